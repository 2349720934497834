import JvmDerived
import JvmDerived.Pilot.@@N@@Statement
import JvmDerived.Pilot.@@N@@Code
set_option linter.unusedVariables false
set_option linter.unusedSimpArgs false
namespace Jvm.RoadKit
open Sem ClassFile Op Lib Jvm.Stand Jvm.Free Jvm.LawKit
section Own
variable {p : Program} {l : Launch} {e : Env} {R : Room} {s : State} {m : MethodId} {args : Array Value} {below : List Frame} {meth : Method} {c : Code} {T : State} {locs : List Loc} {cells slots : Nat} {Z : State} {a0 : Array Value} {h : Heap}
/-- from T with the frame g on top the run comes back with what Q says -/
def Go (p : Program) (e : Env) (below : List Frame) (Fin' : Outcome → State → Prop) (T : State) (g : JFrame) : Prop :=
  ∃ s₂ o, Steps p.tables e below (T.setTop g) s₂ ∧ s₂.status = .running ∧ Ended s₂ below o ∧ Fin' o s₂
/-- how a body ends -/
def Fn (s : State) (RC RS : Nat) (Q : Option Value → Heap → List Loc → Prop) (o : Outcome) (t : State) : Prop := ∃ v L, o = .returned v ∧ Q v t.heap L ∧ FrameEnd s o t L RC RS
/-- what stands fast through a body's walk -/
def Cx (p : Program) (s : State) (m : MethodId) (meth : Method) (c : Code) (Z : State) (own nm : String) (bytes : ByteArray) (maxL : Nat) (ret : Option FieldType) : Prop :=
  p.tables.exec = Jvm.exec ∧ Z.Warmed39 s.vm ∧ s.vm.findClass own = some m.cls ∧ c.code = bytes ∧ c.maxLocals = maxL ∧ meth.sig.returnType = ret ∧ meth.name = nm ∧ meth.locks = false
variable {RC RS : Nat} {Q : Option Value → Heap → List Loc → Prop} {Fin' : Outcome → State → Prop} {own nm : String} {bytes : ByteArray} {maxL : Nat} {ret : Option FieldType} {pc pc' : Nat} {Ls Ls' : Array Slot} {S : List Value}
theorem Go.via {T' : State} {g g' : JFrame} (G : Go p e below Fin' T' g') (k : ∀ t, Steps p.tables e below (T'.setTop g') t → Steps p.tables e below (T.setTop g) t) : Go p e below Fin' T g := by
  obtain ⟨s₂, o, st, r⟩ := G; exact ⟨s₂, o, k _ st, r⟩
theorem Go.cast {g g' : JFrame} (q : g = g') (G : Go p e below Fin' T g') : Go p e below Fin' T g := q ▸ G
/-- a body's contract -/
def Met1 (l : Launch) (Z : State) (y : MethodName) (bytes : ByteArray) (maxL : Nat) (ret : Option FieldType) (rm : Room) (as' : Array Value) (h0 : Heap) (Q : Option Value → Heap → List Loc → Prop) : Prop :=
  ∀ ws : List Jvm.Cond, MetFree l y (head1 (Jvm.Cond.code y bytes maxL ret :: ws) rm) (fun a U => a = as' ∧ Z.Warmed39 U.vm ∧ U.heap = h0) (fun _ _ _ _ _ => True) (fun _ U o U' => ∃ v L, o = .returned v ∧ Q v U'.heap L ∧ FrameEnd U o U' L rm.cells rm.slots)
theorem Met1.of_body {y : MethodName} {rm : Room} {as' : Array Value} {h0 : Heap} (hp : plainFor y = true) (ef : ∀ m, entryFrame m as' maxL = mkF m 0 Ls [])
    (body : ∀ {p : Program} {e : Env} {s : State} {m : MethodId} {below : List Frame} {meth : Method} {c : Code} {T : State}, Cx p s m meth c Z y.cls y.name bytes maxL ret → Stand p l e rm s m as' below meth c T [] 0 0 → T.heap = h0 → Go p e below (Fn s rm.cells rm.slots Q) T (mkF m 0 Ls [])) :
    Met1 l Z y bytes maxL ret rm as' h0 Q := by
  intro ws
  refine MetFree.of_bodySF hp hisR ?_
  intro p e s m args below meth c s₁ Bd hml0 hP hK
  obtain ⟨rfl, hZ, hh⟩ := hP
  have X0 : Stand p l e rm s m args below meth c s₁ [] 0 0 := Stand.of_body Bd
  have hlk : meth.locks = false := BodyLoose.notSynchronized Bd
  obtain ⟨s₂, o, st, r1, r2, r3⟩ := body (p := p) (e := e) (s := s) (m := m) (below := below) (meth := meth) (c := c) (T := s₁) ⟨Bd.exec, hZ, findClass_of_methodNamed Bd.named, Bd.bytes, hml0, Bd.returns, (name_of_methodNamed Bd.named Bd.method).1, hlk⟩ X0 (by rw [← hh, Bd.state]; rfl)
  exact ⟨s₂, o, castTop (ef m) st, r1, r2, r3⟩
/-- a contract may say less -/
theorem Met1.weak {y : MethodName} {rm : Room} {as' : Array Value} {h0 : Heap} {Q' : Option Value → Heap → List Loc → Prop} (M : Met1 l Z y bytes maxL ret rm as' h0 Q) (q : ∀ v h L, Q v h L → Q' v h L) : Met1 l Z y bytes maxL ret rm as' h0 Q' := by
  intro ws p e ha hc hk s m args below hf happ hP hK
  obtain ⟨n, o, h1, h2, h3, v, L, h4, h5, h6⟩ := M ws p e ha hc hk s m args below hf happ hP hK
  exact ⟨n, o, h1, h2, h3, v, L, h4, q _ _ _ h5, h6⟩

/-! plain steps -/
theorem Go.aloadN (C : Cx p s m meth c Z own nm bytes maxL ret) (X : Stand p l e R s m args below meth c T locs cells slots) {k : Fin 4} {v : Value} (hd : decode bytes pc = .ok (.aload_n k, 1)) (hl : Ls[k.val]? = some (.val v)) (hv : v.isRef = true) (hp : pc + 1 = pc') (G : Go p e below Fin' T (mkF m pc' Ls (v :: S))) : Go p e below Fin' T (mkF m pc Ls S) := by
  subst hp; exact G.via fun _ k => XS.aloadN X.here C.1 rfl (hb C.2.2.2.1 hd) hl hv k
theorem Go.aload (C : Cx p s m meth c Z own nm bytes maxL ret) (X : Stand p l e R s m args below meth c T locs cells slots) {k : Nat} {v : Value} (hd : decode bytes pc = .ok (.aload k, 2)) (hl : Ls[k]? = some (.val v)) (hv : v.isRef = true) (hp : pc + 2 = pc') (G : Go p e below Fin' T (mkF m pc' Ls (v :: S))) : Go p e below Fin' T (mkF m pc Ls S) := by
  subst hp; exact G.via fun _ k => XS.aload X.here C.1 rfl (hb C.2.2.2.1 hd) hl hv k
theorem Go.iloadN (C : Cx p s m meth c Z own nm bytes maxL ret) (X : Stand p l e R s m args below meth c T locs cells slots) {k : Fin 4} {v : Int32} (hd : decode bytes pc = .ok (.iload_n k, 1)) (hl : Ls[k.val]? = some (.val (.int v))) (hp : pc + 1 = pc') (G : Go p e below Fin' T (mkF m pc' Ls (.int v :: S))) : Go p e below Fin' T (mkF m pc Ls S) := by
  subst hp; exact G.via fun _ k => XS.iloadN X.here C.1 rfl (hb C.2.2.2.1 hd) hl k
theorem Go.iload (C : Cx p s m meth c Z own nm bytes maxL ret) (X : Stand p l e R s m args below meth c T locs cells slots) {k : Nat} {v : Int32} (hd : decode bytes pc = .ok (.iload k, 2)) (hl : Ls[k]? = some (.val (.int v))) (hp : pc + 2 = pc') (G : Go p e below Fin' T (mkF m pc' Ls (.int v :: S))) : Go p e below Fin' T (mkF m pc Ls S) := by
  subst hp; exact G.via fun _ k => XS.iload X.here C.1 rfl (hb C.2.2.2.1 hd) hl k
theorem Go.istoreN (C : Cx p s m meth c Z own nm bytes maxL ret) (X : Stand p l e R s m args below meth c T locs cells slots) {k : Fin 4} {v : Int32} (hd : decode bytes pc = .ok (.istore_n k, 1)) (hl : storeLocals Ls k.val (.int v) = some Ls') (hp : pc + 1 = pc') (G : Go p e below Fin' T (mkF m pc' Ls' S)) : Go p e below Fin' T (mkF m pc Ls (.int v :: S)) := by
  subst hp; exact G.via fun _ k => XS.istoreN X.here C.1 rfl (hb C.2.2.2.1 hd) rfl hl k
theorem Go.istore (C : Cx p s m meth c Z own nm bytes maxL ret) (X : Stand p l e R s m args below meth c T locs cells slots) {k : Nat} {v : Int32} (hd : decode bytes pc = .ok (.istore k, 2)) (hl : storeLocals Ls k (.int v) = some Ls') (hp : pc + 2 = pc') (G : Go p e below Fin' T (mkF m pc' Ls' S)) : Go p e below Fin' T (mkF m pc Ls (.int v :: S)) := by
  subst hp; exact G.via fun _ k => XS.istore X.here C.1 rfl (hb C.2.2.2.1 hd) rfl hl k
theorem Go.astoreN (C : Cx p s m meth c Z own nm bytes maxL ret) (X : Stand p l e R s m args below meth c T locs cells slots) {k : Fin 4} {v : Value} (hd : decode bytes pc = .ok (.astore_n k, 1)) (hv : v.isRef = true) (hl : storeLocals Ls k.val v = some Ls') (hp : pc + 1 = pc') (G : Go p e below Fin' T (mkF m pc' Ls' S)) : Go p e below Fin' T (mkF m pc Ls (v :: S)) := by
  subst hp; exact G.via fun _ k => XS.astoreN X.here C.1 rfl (hb C.2.2.2.1 hd) rfl hv hl k
theorem Go.astore (C : Cx p s m meth c Z own nm bytes maxL ret) (X : Stand p l e R s m args below meth c T locs cells slots) {k : Nat} {v : Value} (hd : decode bytes pc = .ok (.astore k, 2)) (hv : v.isRef = true) (hl : storeLocals Ls k v = some Ls') (hp : pc + 2 = pc') (G : Go p e below Fin' T (mkF m pc' Ls' S)) : Go p e below Fin' T (mkF m pc Ls (v :: S)) := by
  subst hp; exact G.via fun _ k => XS.astore X.here C.1 rfl (hb C.2.2.2.1 hd) rfl hv hl k
theorem Go.iconst (C : Cx p s m meth c Z own nm bytes maxL ret) (X : Stand p l e R s m args below meth c T locs cells slots) {i : Int} {z : Int32} (hd : decode bytes pc = .ok (.iconst i, 1)) (hz : Int32.ofInt i = z) (hp : pc + 1 = pc') (G : Go p e below Fin' T (mkF m pc' Ls (.int z :: S))) : Go p e below Fin' T (mkF m pc Ls S) := by
  subst hp; exact G.via fun _ k => XT.iconstV X.here C.1 rfl z (hb C.2.2.2.1 hd) hz k
theorem Go.bipush (C : Cx p s m meth c Z own nm bytes maxL ret) (X : Stand p l e R s m args below meth c T locs cells slots) {i : Int} {z : Int32} (hd : decode bytes pc = .ok (.bipush i, 2)) (hz : (Int8.ofInt i).toInt32 = z) (hp : pc + 2 = pc') (G : Go p e below Fin' T (mkF m pc' Ls (.int z :: S))) : Go p e below Fin' T (mkF m pc Ls S) := by
  subst hp; exact G.via fun _ k => XT.bipushV X.here C.1 rfl z (hb C.2.2.2.1 hd) hz k
theorem Go.sipush (C : Cx p s m meth c Z own nm bytes maxL ret) (X : Stand p l e R s m args below meth c T locs cells slots) {i : Int} {z : Int32} (hd : decode bytes pc = .ok (.sipush i, 3)) (hz : (Int16.ofInt i).toInt32 = z) (hp : pc + 3 = pc') (G : Go p e below Fin' T (mkF m pc' Ls (.int z :: S))) : Go p e below Fin' T (mkF m pc Ls S) := by
  subst hp; exact G.via fun _ k => XT.sipushV X.here C.1 rfl z (hb C.2.2.2.1 hd) hz k
theorem Go.aconstNull (C : Cx p s m meth c Z own nm bytes maxL ret) (X : Stand p l e R s m args below meth c T locs cells slots)  (hd : decode bytes pc = .ok (.aconst_null, 1))  (hp : pc + 1 = pc') (G : Go p e below Fin' T (mkF m pc' Ls (.null :: S))) : Go p e below Fin' T (mkF m pc Ls S) := by
  subst hp; exact G.via fun _ k => XS.aconstNull X.here C.1 rfl (hb C.2.2.2.1 hd) k
theorem Go.ldcI (C : Cx p s m meth c Z own nm bytes maxL ret) (X : Stand p l e R s m args below meth c T locs cells slots) {i : Nat} {z : Int32} (hd : decode bytes pc = .ok (.ldc i, 2)) (w : (Cond.constant own i z).before a0 Z = true) (hp : pc + 2 = pc') (G : Go p e below Fin' T (mkF m pc' Ls (.int z :: S))) : Go p e below Fin' T (mkF m pc Ls S) := by
  subst hp; exact G.via fun _ k => X.ldcI C.1 C.2.2.1 (mvT C.2.1 w) rfl (hb C.2.2.2.1 hd) k
theorem Go.iadd (C : Cx p s m meth c Z own nm bytes maxL ret) (X : Stand p l e R s m args below meth c T locs cells slots) {x y : Int32} (hd : decode bytes pc = .ok (.iadd, 1))  (hp : pc + 1 = pc') (G : Go p e below Fin' T (mkF m pc' Ls (.int (x + y) :: S))) : Go p e below Fin' T (mkF m pc Ls (.int y :: .int x :: S)) := by
  subst hp; exact G.via fun _ k => XS.iadd X.here C.1 rfl (hb C.2.2.2.1 hd) rfl k
theorem Go.isub (C : Cx p s m meth c Z own nm bytes maxL ret) (X : Stand p l e R s m args below meth c T locs cells slots) {x y : Int32} (hd : decode bytes pc = .ok (.isub, 1))  (hp : pc + 1 = pc') (G : Go p e below Fin' T (mkF m pc' Ls (.int (x - y) :: S))) : Go p e below Fin' T (mkF m pc Ls (.int y :: .int x :: S)) := by
  subst hp; exact G.via fun _ k => XS.isub X.here C.1 rfl (hb C.2.2.2.1 hd) rfl k
theorem Go.iand (C : Cx p s m meth c Z own nm bytes maxL ret) (X : Stand p l e R s m args below meth c T locs cells slots) {x y : Int32} (hd : decode bytes pc = .ok (.iand, 1))  (hp : pc + 1 = pc') (G : Go p e below Fin' T (mkF m pc' Ls (.int (x &&& y) :: S))) : Go p e below Fin' T (mkF m pc Ls (.int y :: .int x :: S)) := by
  subst hp; exact G.via fun _ k => XS.iand X.here C.1 rfl (hb C.2.2.2.1 hd) rfl k
theorem Go.ishr (C : Cx p s m meth c Z own nm bytes maxL ret) (X : Stand p l e R s m args below meth c T locs cells slots) {x y : Int32} (hd : decode bytes pc = .ok (.ishr, 1))  (hp : pc + 1 = pc') (G : Go p e below Fin' T (mkF m pc' Ls (.int (x >>> (y &&& 31)) :: S))) : Go p e below Fin' T (mkF m pc Ls (.int y :: .int x :: S)) := by
  subst hp; exact G.via fun _ k => XS.ishr X.here C.1 rfl (hb C.2.2.2.1 hd) rfl k
theorem Go.iushr (C : Cx p s m meth c Z own nm bytes maxL ret) (X : Stand p l e R s m args below meth c T locs cells slots) {x y : Int32} (hd : decode bytes pc = .ok (.iushr, 1))  (hp : pc + 1 = pc') (G : Go p e below Fin' T (mkF m pc' Ls (.int ((x.toUInt32 >>> (y &&& 31).toUInt32).toInt32) :: S))) : Go p e below Fin' T (mkF m pc Ls (.int y :: .int x :: S)) := by
  subst hp; exact G.via fun _ k => XS.iushr X.here C.1 rfl (hb C.2.2.2.1 hd) rfl k
theorem Go.irem (C : Cx p s m meth c Z own nm bytes maxL ret) (X : Stand p l e R s m args below meth c T locs cells slots) {x y : Int32} (hd : decode bytes pc = .ok (.irem, 1)) (hy : y ≠ 0) (hp : pc + 1 = pc') (G : Go p e below Fin' T (mkF m pc' Ls (.int (x % y) :: S))) : Go p e below Fin' T (mkF m pc Ls (.int y :: .int x :: S)) := by
  subst hp; exact G.via fun _ k => iremM X C.1 rfl (hb C.2.2.2.1 hd) rfl hy k
theorem Go.i2b (C : Cx p s m meth c Z own nm bytes maxL ret) (X : Stand p l e R s m args below meth c T locs cells slots) {x : Int32} (hd : decode bytes pc = .ok (.i2b, 1))  (hp : pc + 1 = pc') (G : Go p e below Fin' T (mkF m pc' Ls (.int (x.toInt8.toInt32) :: S))) : Go p e below Fin' T (mkF m pc Ls (.int x :: S)) := by
  subst hp; exact G.via fun _ k => XS.i2b X.here C.1 rfl (hb C.2.2.2.1 hd) rfl k
theorem Go.i2c (C : Cx p s m meth c Z own nm bytes maxL ret) (X : Stand p l e R s m args below meth c T locs cells slots) {x : Int32} (hd : decode bytes pc = .ok (.i2c, 1))  (hp : pc + 1 = pc') (G : Go p e below Fin' T (mkF m pc' Ls (.int (x.toUInt32.toUInt16.toUInt32.toInt32) :: S))) : Go p e below Fin' T (mkF m pc Ls (.int x :: S)) := by
  subst hp; exact G.via fun _ k => XS.i2c X.here C.1 rfl (hb C.2.2.2.1 hd) rfl k
theorem Go.iinc (C : Cx p s m meth c Z own nm bytes maxL ret) (X : Stand p l e R s m args below meth c T locs cells slots) {k : Nat} {i : Int} {z x : Int32} (hd : decode bytes pc = .ok (.iinc k i, 3)) (hz : Int32.ofInt i = z) (hl : Ls[k]? = some (.val (.int x))) (hl' : storeLocals Ls k (.int (x + z)) = some Ls') (hp : pc + 3 = pc') (G : Go p e below Fin' T (mkF m pc' Ls' S)) : Go p e below Fin' T (mkF m pc Ls S) := by
  subst hp; exact G.via fun _ k => XT.iincV X.here C.1 rfl z (hb C.2.2.2.1 hd) hz hl hl' k
theorem Go.dup (C : Cx p s m meth c Z own nm bytes maxL ret) (X : Stand p l e R s m args below meth c T locs cells slots) {v : Value} (hd : decode bytes pc = .ok (.dup, 1)) (hc : v.category = 1) (hp : pc + 1 = pc') (G : Go p e below Fin' T (mkF m pc' Ls (v :: v :: S))) : Go p e below Fin' T (mkF m pc Ls (v :: S)) := by
  subst hp; exact G.via fun _ k => XS.dup X.here C.1 rfl (hb C.2.2.2.1 hd) rfl hc k
theorem Go.pop (C : Cx p s m meth c Z own nm bytes maxL ret) (X : Stand p l e R s m args below meth c T locs cells slots) {v : Value} (hd : decode bytes pc = .ok (.pop, 1)) (hc : v.category = 1) (hp : pc + 1 = pc') (G : Go p e below Fin' T (mkF m pc' Ls S)) : Go p e below Fin' T (mkF m pc Ls (v :: S)) := by
  subst hp; exact G.via fun _ k => XS.pop X.here C.1 rfl (hb C.2.2.2.1 hd) rfl hc k
theorem Go.goto (C : Cx p s m meth c Z own nm bytes maxL ret) (X : Stand p l e R s m args below meth c T locs cells slots)  {o : Int} (hd : decode bytes pc = .ok (.goto o, 3))  (ho : 0 ≤ (pc : Int) + o) (hp : ((pc : Int) + o).toNat = pc') (G : Go p e below Fin' T (mkF m pc' Ls S)) : Go p e below Fin' T (mkF m pc Ls S) :=
  G.via fun _ k => XS.goto X.here C.1 rfl rfl (hb C.2.2.2.1 hd) ho hp k
theorem Go.ifYes (C : Cx p s m meth c Z own nm bytes maxL ret) (X : Stand p l e R s m args below meth c T locs cells slots) {cd : ClassFile.Cond} {x : Int32} {o : Int} (hd : decode bytes pc = .ok (.ifCond cd o, 3)) (hc : ifCond.holds cd x = true) (ho : 0 ≤ (pc : Int) + o) (hp : ((pc : Int) + o).toNat = pc') (G : Go p e below Fin' T (mkF m pc' Ls S)) : Go p e below Fin' T (mkF m pc Ls (.int x :: S)) :=
  G.via fun _ k => XS.ifYes X.here C.1 rfl rfl (hb C.2.2.2.1 hd) rfl hc ho hp k
theorem Go.ifNo (C : Cx p s m meth c Z own nm bytes maxL ret) (X : Stand p l e R s m args below meth c T locs cells slots) {cd : ClassFile.Cond} {x : Int32} {o : Int} (hd : decode bytes pc = .ok (.ifCond cd o, 3)) (hc : ifCond.holds cd x = false) (hp : pc + 3 = pc') (G : Go p e below Fin' T (mkF m pc' Ls S)) : Go p e below Fin' T (mkF m pc Ls (.int x :: S)) := by
  subst hp; exact G.via fun _ k => XS.ifNo X.here C.1 rfl (hb C.2.2.2.1 hd) rfl hc k
theorem Go.icmpYes (C : Cx p s m meth c Z own nm bytes maxL ret) (X : Stand p l e R s m args below meth c T locs cells slots) {cd : ClassFile.Cond} {x y : Int32} {o : Int} (hd : decode bytes pc = .ok (.if_icmp cd o, 3)) (hc : if_icmp.holds cd x y = true) (ho : 0 ≤ (pc : Int) + o) (hp : ((pc : Int) + o).toNat = pc') (G : Go p e below Fin' T (mkF m pc' Ls S)) : Go p e below Fin' T (mkF m pc Ls (.int y :: .int x :: S)) :=
  G.via fun _ k => XS.icmpYes X.here C.1 rfl rfl (hb C.2.2.2.1 hd) rfl hc ho hp k
theorem Go.icmpNo (C : Cx p s m meth c Z own nm bytes maxL ret) (X : Stand p l e R s m args below meth c T locs cells slots) {cd : ClassFile.Cond} {x y : Int32} {o : Int} (hd : decode bytes pc = .ok (.if_icmp cd o, 3)) (hc : if_icmp.holds cd x y = false) (hp : pc + 3 = pc') (G : Go p e below Fin' T (mkF m pc' Ls S)) : Go p e below Fin' T (mkF m pc Ls (.int y :: .int x :: S)) := by
  subst hp; exact G.via fun _ k => XS.icmpNo X.here C.1 rfl (hb C.2.2.2.1 hd) rfl hc k
theorem Go.ifnullYes (C : Cx p s m meth c Z own nm bytes maxL ret) (X : Stand p l e R s m args below meth c T locs cells slots)  {o : Int} (hd : decode bytes pc = .ok (.ifnull o, 3))  (ho : 0 ≤ (pc : Int) + o) (hp : ((pc : Int) + o).toNat = pc') (G : Go p e below Fin' T (mkF m pc' Ls S)) : Go p e below Fin' T (mkF m pc Ls (.null :: S)) :=
  G.via fun _ k => XS.ifnullYes X.here C.1 rfl rfl (hb C.2.2.2.1 hd) rfl ho hp k
theorem Go.ifnullNo (C : Cx p s m meth c Z own nm bytes maxL ret) (X : Stand p l e R s m args below meth c T locs cells slots) {b : Addr} {o : Int} (hd : decode bytes pc = .ok (.ifnull o, 3))  (hp : pc + 3 = pc') (G : Go p e below Fin' T (mkF m pc' Ls S)) : Go p e below Fin' T (mkF m pc Ls (.ref b :: S)) := by
  subst hp; exact G.via fun _ k => XS.ifnullNo X.here C.1 rfl (hb C.2.2.2.1 hd) rfl k
theorem Go.ifnonnullYes (C : Cx p s m meth c Z own nm bytes maxL ret) (X : Stand p l e R s m args below meth c T locs cells slots) {b : Addr} {o : Int} (hd : decode bytes pc = .ok (.ifnonnull o, 3))  (ho : 0 ≤ (pc : Int) + o) (hp : ((pc : Int) + o).toNat = pc') (G : Go p e below Fin' T (mkF m pc' Ls S)) : Go p e below Fin' T (mkF m pc Ls (.ref b :: S)) :=
  G.via fun _ k => XS.ifnonnullYes X.here C.1 rfl rfl (hb C.2.2.2.1 hd) rfl ho hp k
theorem Go.acmpYes (C : Cx p s m meth c Z own nm bytes maxL ret) (X : Stand p l e R s m args below meth c T locs cells slots) {cd : ClassFile.ACond} {v w : Value} {o : Int} (hd : decode bytes pc = .ok (.if_acmp cd o, 3)) (hv : v.isRef = true) (hw : w.isRef = true) (hc : XT.acmp cd v w = true) (ho : 0 ≤ (pc : Int) + o) (hp : ((pc : Int) + o).toNat = pc') (G : Go p e below Fin' T (mkF m pc' Ls S)) : Go p e below Fin' T (mkF m pc Ls (w :: v :: S)) :=
  G.via fun _ k => XT.acmpYes X.here C.1 rfl rfl (hb C.2.2.2.1 hd) rfl hv hw hc ho hp k
theorem Go.acmpNo (C : Cx p s m meth c Z own nm bytes maxL ret) (X : Stand p l e R s m args below meth c T locs cells slots) {cd : ClassFile.ACond} {v w : Value} {o : Int} (hd : decode bytes pc = .ok (.if_acmp cd o, 3)) (hv : v.isRef = true) (hw : w.isRef = true) (hc : XT.acmp cd v w = false) (hp : pc + 3 = pc') (G : Go p e below Fin' T (mkF m pc' Ls S)) : Go p e below Fin' T (mkF m pc Ls (w :: v :: S)) := by
  subst hp; exact G.via fun _ k => XT.acmpNo X.here C.1 rfl (hb C.2.2.2.1 hd) rfl hv hw hc k
/-! the returns -/
theorem Go.retV (C : Cx p s m meth c Z own nm bytes maxL ret) (X : Stand p l e R s m args below meth c T locs cells slots)  (hr : ret = none) (hd : decode bytes pc = .ok (.return_, 1))  (hq : Q none T.heap locs) (hc : cells ≤ RC) (hs : slots ≤ RS) : Go p e below (Fn s RC RS Q) T (mkF m pc Ls []) := by
  have hret := C.2.2.2.2.2.1
  have hlk := C.2.2.2.2.2.2.2
  rw [hr] at hret
  obtain ⟨fs, hl, hrun, hended, hW, hsame⟩ := X.leave (v := none) (fun h => by first | rfl | (rw [hret] at h; cases h)) hlk
  exact ⟨_, _, X.returnOut C.1 hret (hb C.2.2.2.1 hd) hl, hrun, hended, _, _, rfl, hq, ⟨_, rfl⟩, hW, hsame.mono hc hs⟩
theorem Go.retN (C : Cx p s m meth c Z own nm bytes maxL ret) (X : Stand p l e R s m args below meth c T locs cells slots) {t : FieldType} {z : Int32} (hr : ret = some t) (hd : decode bytes pc = .ok (.ireturn, 1)) (ht : t = .boolean ∨ t = .byte ∨ t = .char ∨ t = .short) (hq : Q (some (.int (nar t z))) T.heap locs) (hc : cells ≤ RC) (hs : slots ≤ RS) : Go p e below (Fn s RC RS Q) T (mkF m pc Ls (.int z :: S)) := by
  have hret := C.2.2.2.2.2.1
  have hlk := C.2.2.2.2.2.2.2
  rw [hr] at hret
  obtain ⟨fs, hl, hrun, hended, hW, hsame⟩ := X.leave (v := (some (.int (nar t z)))) (fun h => by first | rfl | (rw [hret] at h; cases h)) hlk
  exact ⟨_, _, Jvm.RoadKit.retN X C.1 hret ht (hb C.2.2.2.1 hd) hl, hrun, hended, _, _, rfl, hq, ⟨_, rfl⟩, hW, hsame.mono hc hs⟩
theorem Go.retI (C : Cx p s m meth c Z own nm bytes maxL ret) (X : Stand p l e R s m args below meth c T locs cells slots) {z : Int32} (hr : ret = some .int) (hd : decode bytes pc = .ok (.ireturn, 1))  (hq : Q (some (.int z)) T.heap locs) (hc : cells ≤ RC) (hs : slots ≤ RS) : Go p e below (Fn s RC RS Q) T (mkF m pc Ls (.int z :: S)) := by
  have hret := C.2.2.2.2.2.1
  have hlk := C.2.2.2.2.2.2.2
  rw [hr] at hret
  obtain ⟨fs, hl, hrun, hended, hW, hsame⟩ := X.leave (v := (some (.int z))) (fun h => by first | rfl | (rw [hret] at h; cases h)) hlk
  exact ⟨_, _, retOut X C.1 hret rfl (Or.inl ⟨rfl, Or.inl rfl, z, rfl⟩) (hb C.2.2.2.1 hd) hl, hrun, hended, _, _, rfl, hq, ⟨_, rfl⟩, hW, hsame.mono hc hs⟩
theorem Go.retA (C : Cx p s m meth c Z own nm bytes maxL ret) (X : Stand p l e R s m args below meth c T locs cells slots) {t : FieldType} {v : Value} (hr : ret = some t) (hd : decode bytes pc = .ok (.areturn, 1)) (ht : t.isReference = true) (hv : v.isRef = true) (hn : narrow t v = v) (hq : Q (some v) T.heap locs) (hc : cells ≤ RC) (hs : slots ≤ RS) : Go p e below (Fn s RC RS Q) T (mkF m pc Ls (v :: S)) := by
  have hret := C.2.2.2.2.2.1
  have hlk := C.2.2.2.2.2.2.2
  rw [hr] at hret
  obtain ⟨fs, hl, hrun, hended, hW, hsame⟩ := X.leave (v := (some v)) (fun h => by first | rfl | (rw [hret] at h; cases h)) hlk
  exact ⟨_, _, retOut X C.1 hret hn (Or.inr (Or.inr (Or.inr (Or.inr ⟨rfl, ht, hv⟩)))) (hb C.2.2.2.1 hd) hl, hrun, hended, _, _, rfl, hq, ⟨_, rfl⟩, hW, hsame.mono hc hs⟩
/-! arrays whose elements are all known -/
def AL (Z : State) (h : Heap) (a : Addr) (k : ClassId) (ty : FieldType) (vs : List Value) : Prop := ∃ c : Cell, Arr Z h a c ty ∧ c.cls = k ∧ c.slots = vs.toArray
theorem AL.lt {a : Addr} {k : ClassId} {ty : FieldType} {vs : List Value} (F : AL Z h a k ty vs) : a < h.size := by obtain ⟨c, A, -⟩ := F; exact A.lt
theorem AL.ext {h' : Heap} {a : Addr} {k : ClassId} {ty : FieldType} {vs : List Value} (E : Ext h h') (F : AL Z h a k ty vs) : AL Z h' a k ty vs := by obtain ⟨c, A, r⟩ := F; exact ⟨c, A.ext E, r⟩
theorem AL.other {h' : Heap} {a b : Addr} {sl : Nat} {v : Value} {k : ClassId} {ty : FieldType} {vs : List Value} (W : Wr h h' a sl v) (F : AL Z h b k ty vs) (q : b ≠ a) : AL Z h' b k ty vs := by obtain ⟨c, A, r⟩ := F; exact ⟨c, A.other W q, r⟩
theorem AL.keep {h' : Heap} {a : Addr} {ws : List Addr} {k : ClassId} {ty : FieldType} {vs : List Value} (F : AL Z h a k ty vs) (K : Keep h h' ws) (q : a ∉ ws) : AL Z h' a k ty vs := by obtain ⟨c, A, r⟩ := F; exact ⟨c, ⟨K.2.1 a c A.1 q, A.2⟩, r⟩
theorem AL.set {h' : Heap} {a : Addr} {i : Nat} {v : Value} {k : ClassId} {ty : FieldType} {vs : List Value} (F : AL Z h a k ty vs) (W : Wr h h' a i v) : AL Z h' a k ty (vs.set i v) := by
  obtain ⟨c, A, r1, r2⟩ := F
  exact ⟨_, A.same W, r1, by simp [Cell.setSlot, r2]⟩
theorem AL.new {a : Addr} {k : ClassId} {ty : FieldType} {n : Int32} (A : Arr Z h a (newA k ty n) ty) : AL Z h a k ty (List.replicate n.toNatClampNeg (defaultValue ty)) := ⟨_, A, rfl, by simp [newA]⟩
theorem AL.arv {a : Addr} {k : ClassId} {ty : FieldType} {n : Int32} {vs : List Value} {dv : Value} (F : AL Z h a k ty vs) (hn : ¬ n < 0) (hl : n.toNatClampNeg = vs.length) (hf : ∀ v ∈ vs, fits ty v = true) : Arv Z h a k ty n vs dv := by
  obtain ⟨c, A, r1, r2⟩ := F
  refine ⟨c, A, r1, by rw [r2]; simp [hl], hn, fun i hi => ?_, fun i hi => ?_⟩
  · have hi' : i < vs.length := by simpa [r2] using hi
    simp [r2, List.getD, List.getElem?_eq_getElem hi']
  · have hi' : i < vs.length := by simpa [r2] using hi
    have q : vs.getD i dv = vs[i] := by simp [List.getD, List.getElem?_eq_getElem hi']
    rw [q]; exact hf _ (List.getElem_mem hi')
theorem AL.of_arv {a : Addr} {k : ClassId} {ty : FieldType} {n : Int32} {vs : List Value} {dv : Value} (F : Arv Z h a k ty n vs dv) (hl : n.toNatClampNeg = vs.length) : AL Z h a k ty vs := by
  obtain ⟨c, A, r1, r2, -, H, -⟩ := F
  refine ⟨c, A, r1, ?_⟩
  apply Array.ext_getElem?
  intro i
  by_cases hi : i < c.slots.size
  · have hi' : i < vs.length := by omega
    rw [H i hi]
    simp [List.getD, List.getElem?_eq_getElem hi']
  · have hi' : vs.length ≤ i := by omega
    rw [Array.getElem?_eq_none (by omega)]
    simp [List.getElem?_eq_none hi']
theorem Sta.old {n d K1 : String} {v : Value} (F : Sta Z Z.heap K1 n d v) (O : Ext Z.heap h) : Sta Z h K1 n d v := F.ext O
theorem Ext.trans {h1 h2 h3 : Heap} (E : Ext h1 h2) (E' : Ext h2 h3) : Ext h1 h3 := ⟨Nat.le_trans E.1 E'.1, fun x c q => E'.2 x c (E.2 x c q)⟩
theorem Ext.refl (h : Heap) : Ext h h := ⟨Nat.le_refl _, fun _ _ q => q⟩
theorem Ext.wr {h1 h2 h3 : Heap} {a : Addr} {sl : Nat} {v : Value} (E : Ext h1 h2) (W : Wr h2 h3 a sl v) (q : h1.size ≤ a) : Ext h1 h3 := by
  refine ⟨by rw [W.size]; exact E.1, fun x c hx => ?_⟩
  obtain ⟨c', e1, -, -, -, e5, -⟩ := wr_at W (E.2 x c hx)
  have ne : x ≠ a := fun e => absurd (Array.getElem?_eq_some_iff.mp hx).1 (by rw [e]; exact Nat.not_lt.mpr q)
  rw [← e5 ne]; exact e1
theorem Ext.keep {h1 h2 h3 : Heap} {ws : List Addr} (E : Ext h1 h2) (K : Keep h2 h3 ws) (q : ∀ x ∈ ws, h1.size ≤ x) : Ext h1 h3 := ⟨Nat.le_trans E.1 K.1, fun x c hx => K.2.1 x c (E.2 x c hx) fun z => absurd (Array.getElem?_eq_some_iff.mp hx).1 (Nat.not_lt.mpr (q x z))⟩
theorem Keep.toExt {h1 h2 : Heap} (K : Keep h1 h2 []) : Ext h1 h2 := ⟨K.1, fun x c hx => K.2.1 x c hx (fun z => nomatch z)⟩
theorem Keep.of_ext {h1 h2 : Heap} {ws : List Addr} (E : Ext h1 h2) : Keep h1 h2 ws := (Keep.refl h1 ws).ext E
theorem Keep.drop {h1 h2 : Heap} {ws ws' : List Addr} (K : Keep h1 h2 ws) (q : ∀ x ∈ ws, x ∈ ws' ∨ h1.size ≤ x) : Keep h1 h2 ws' := (Keep.refl h1 ws').trans K q
theorem Ins.keep {h' : Heap} {a : Addr} {ws : List Addr} {K1 : String} {bo : Bool} (F : Ins Z h a K1 bo) (K : Keep h h' ws) : Ins Z h' a K1 bo := by
  obtain ⟨cell, cT, h1, h2, h3⟩ := F
  obtain ⟨c', e1, e2, e3, -⟩ := K.2.2 _ _ h1
  exact ⟨c', cT, e1, h2, by rw [e2, e3]; exact h3⟩
/-! steps that read the tables or the heap -/
theorem Go.getF (C : Cx p s m meth c Z own nm bytes maxL ret) (X : Stand p l e R s m args below meth c T locs cells slots) {idx : Nat} {R0 O n d host : String} {a : Addr} {v : Value} (w : (Cond.fieldLink own idx R0 n d).before a0 Z = true ∨ (Cond.fieldLinkNest own idx R0 n d host).before a0 Z = true) (via : Via Z R0 O n d) (eT : T.heap = h) (F : Fld Z h a O n d v) (hd : decode bytes pc = .ok (.getfield idx, 3)) (hp : pc + 3 = pc')
    (K : ∀ T', Stand p l e R s m args below meth c T' locs cells slots → T'.heap = h → Go p e below Fin' T' (mkF m pc' Ls (v :: S))) : Go p e below Fin' T (mkF m pc Ls (.ref a :: S)) := by
  subst hp
  obtain ⟨T', X', e', st⟩ := Jvm.RoadKit.getF X C.1 C.2.1 C.2.2.1 w via eT F (g := mkF m pc Ls (.ref a :: S)) rfl rfl (hb C.2.2.2.1 hd)
  exact (K T' X' e').via st
theorem Go.getS (C : Cx p s m meth c Z own nm bytes maxL ret) (X : Stand p l e R s m args below meth c T locs cells slots) {idx : Nat} {R0 O n d host : String} {v : Value} (w : (Cond.fieldLink own idx R0 n d).before a0 Z = true ∨ (Cond.fieldLinkNest own idx R0 n d host).before a0 Z = true) (via : Via Z R0 O n d) (eT : T.heap = h) (F : Sta Z h O n d v) (hd : decode bytes pc = .ok (.getstatic idx, 3)) (hp : pc + 3 = pc')
    (K : ∀ T', Stand p l e R s m args below meth c T' locs cells slots → T'.heap = h → Go p e below Fin' T' (mkF m pc' Ls (v :: S))) : Go p e below Fin' T (mkF m pc Ls S) := by
  subst hp
  obtain ⟨T', X', e', st⟩ := getS2 X C.1 C.2.1 C.2.2.1 w via eT F (g := mkF m pc Ls S) rfl (hb C.2.2.2.1 hd)
  exact (K T' X' e').via st
theorem Go.putF (C : Cx p s m meth c Z own nm bytes maxL ret) (X : Stand p l e R s m args below meth c T locs cells slots) {idx kk : Nat} {R0 O n d host K1 : String} {a : Addr} {v old : Value} {ty : FieldType} (w : (Cond.fieldLink own idx R0 n d).before a0 Z = true ∨ (Cond.fieldLinkNest own idx R0 n d host).before a0 Z = true) (via : Via Z R0 O n d) (eT : T.heap = h) (F : Fld Z h a O n d old) (E : Exa Z h a K1) (L : (Cond.lays K1 O n d).before a0 Z = true ∨ ((Cond.laysFinal K1 O n d).before a0 Z = true ∧ own = O ∧ nm = "<init>")) (wi : (Cond.instantiable K1 kk).before a0 Z = true) (hty : parseFieldDescriptor d = some ty) (hn : narrow ty v = v) (hf : fits ty v = true) (hd : decode bytes pc = .ok (.putfield idx, 3)) (hp : pc + 3 = pc')
    (K : ∀ T' h', Stand p l e R s m args below meth c T' (locs ++ [⟨a, slotOf Z O n d⟩]) cells slots → T'.heap = h' → Wr h h' a (slotOf Z O n d) v → Fld Z h' a O n d v → Go p e below Fin' T' (mkF m pc' Ls S)) : Go p e below Fin' T (mkF m pc Ls (v :: .ref a :: S)) := by
  subst hp
  obtain ⟨T', h', X', e', W', st⟩ := Jvm.RoadKit.putF X C.1 C.2.1 C.2.2.1 w via eT F E (L.imp id fun q => ⟨q.1, q.2.1, C.2.2.2.2.2.2.1.trans q.2.2⟩) wi hty hn hf (g := mkF m pc Ls (v :: .ref a :: S)) rfl rfl (hb C.2.2.2.1 hd)
  exact (K T' h' X' e' W' (F.same W')).via st
theorem Go.putFN (C : Cx p s m meth c Z own nm bytes maxL ret) (X : Stand p l e R s m args below meth c T locs cells slots) {idx kk : Nat} {R0 O n d K1 : String} {a : Addr} {v v' old : Value} {ty : FieldType} (w : (Cond.fieldLink own idx R0 n d).before a0 Z = true) (via : Via Z R0 O n d) (eT : T.heap = h) (F : Fld Z h a O n d old) (E : Exa Z h a K1) (L : (Cond.lays K1 O n d).before a0 Z = true ∨ ((Cond.laysFinal K1 O n d).before a0 Z = true ∧ own = O ∧ nm = "<init>")) (wi : (Cond.instantiable K1 kk).before a0 Z = true) (hty : parseFieldDescriptor d = some ty) (hn : narrow ty v = v') (hf : fits ty v' = true) (hd : decode bytes pc = .ok (.putfield idx, 3)) (hp : pc + 3 = pc')
    (K : ∀ T' h', Stand p l e R s m args below meth c T' (locs ++ [⟨a, slotOf Z O n d⟩]) cells slots → T'.heap = h' → Wr h h' a (slotOf Z O n d) v' → Fld Z h' a O n d v' → Go p e below Fin' T' (mkF m pc' Ls S)) : Go p e below Fin' T (mkF m pc Ls (v :: .ref a :: S)) := by
  subst hp
  obtain ⟨T', h', X', e', W', st⟩ := Jvm.RoadKit.putFN X C.1 C.2.1 C.2.2.1 w via eT F E (L.imp id fun q => ⟨q.1, q.2.1, C.2.2.2.2.2.2.1.trans q.2.2⟩) wi hty hn hf (g := mkF m pc Ls (v :: .ref a :: S)) rfl rfl (hb C.2.2.2.1 hd)
  exact (K T' h' X' e' W' (F.same W')).via st
theorem Go.newO (C : Cx p s m meth c Z own nm bytes maxL ret) (X : Stand p l e R s m args below meth c T locs cells slots) {idx n : Nat} {K1 : String} (w : (Cond.classLink own idx K1).before a0 Z = true) (wi : (Cond.instantiable K1 n).before a0 Z = true) (wz : (Cond.initialized K1).before a0 Z = true) (eT : T.heap = h) (hc : cells + 1 ≤ R.cells) (hl : slots + n ≤ R.slots) (hd : decode bytes pc = .ok (.new idx, 3)) (hp : pc + 3 = pc')
    (K : ∀ T' h' b, Stand p l e R s m args below meth c T' locs (cells + 1) (slots + n) → T'.heap = h' → b = h.size → Ext h h' → Exa Z h' b K1 → (∀ {O nm d : String} {ty : FieldType}, Laid Z a0 K1 O nm d → parseFieldDescriptor d = some ty → Fld Z h' b O nm d (defaultValue ty)) → Go p e below Fin' T' (mkF m pc' Ls (.ref b :: S))) : Go p e below Fin' T (mkF m pc Ls S) := by
  subst hp
  obtain ⟨T', h', X', e', E', A', D', -, st⟩ := Jvm.RoadKit.newO X C.1 C.2.1 C.2.2.1 w wi wz eT (g := mkF m pc Ls S) rfl (hb C.2.2.2.1 hd) hc hl
  exact (K T' h' h.size X' e' rfl E' A' D').via st
theorem Go.newP (C : Cx p s m meth c Z own nm bytes maxL ret) (X : Stand p l e R s m args below meth c T locs cells slots) {aty : ArrayType} {n : Int32} {cap : Nat} {vs : List Value} {ad : String} (had : "[" ++ (newarray.typeOf aty).toString = ad) (w : (Cond.arrayClass (newarray.typeOf aty)).before a0 Z = true) (eT : T.heap = h) (hn : ¬ n < 0) (hcap : n.toNatClampNeg ≤ cap) (hb8 : cap * 8 ≤ 536870912) (hc : cells + 1 ≤ R.cells) (hl : slots + cap ≤ R.slots) (hvs : List.replicate n.toNatClampNeg (defaultValue (newarray.typeOf aty)) = vs) (hd : decode bytes pc = .ok (.newarray aty, 2)) (hp : pc + 2 = pc')
    (K : ∀ T' h' b k, Stand p l e R s m args below meth c T' locs (cells + 1) (slots + cap) → T'.heap = h' → b = h.size → Ext h h' → AL Z h' b k (newarray.typeOf aty) vs → Exa Z h' b ad → Go p e below Fin' T' (mkF m pc' Ls (.ref b :: S))) : Go p e below Fin' T (mkF m pc Ls (.int n :: S)) := by
  subst hp
  obtain ⟨T', h', k, X', e', E', A', E2, st⟩ := Jvm.RoadKit.newPE X C.1 C.2.1 w eT (g := mkF m pc Ls (.int n :: S)) rfl (hb C.2.2.2.1 hd) rfl hn hcap hb8 hc hl had
  exact (K T' h' h.size k X' e' rfl E' (hvs ▸ AL.new A') E2).via st
theorem AL.stoA {a y : Addr} {k : ClassId} {t0 ty : FieldType} {vs : List Value} {K1 : String} (F : AL Z h a k t0 vs) (O : OvrA Z k ty K1) (I : Ins Z h y K1 true) : Sto Z h a (.ref y) := by
  obtain ⟨c, A, r, -⟩ := F; exact Sto.ofVA A r O I
theorem range_drop (vs : List Value) (dv : Value) (i n : Nat) (hn : i + n ≤ vs.length) : ((List.range n).map fun j => vs.getD (i + j) dv) = (vs.drop i).take n := by
  apply List.ext_getElem
  · simp; omega
  · intro j h1 h2
    have h3 : i + j < vs.length := by simp at h1; omega
    simp [List.getD, List.getElem?_eq_getElem h3]
theorem Go.arrcopy (C : Cx p s m meth c Z own nm bytes maxL ret) (X : Stand p l e R s m args below meth c T locs cells slots) {idx : Nat} {a b : Addr} {k k' : ClassId} {ty ty' : FieldType} {vs vd vd' : List Value} {sp dp nn : Int32} {i j n W : Nat} (w1 : (Cond.methodLink own idx Jvm.Stand.acN).before a0 Z = true) (w2 : (Cond.native Jvm.Stand.acN).before a0 Z = true) (w3 : (Cond.static Jvm.Stand.acN).before a0 Z = true) (w4 : (Cond.initialized "java/lang/System").before a0 Z = true) (eT : T.heap = h) (A : AL Z h a k ty vs) (B : AL Z h b k' ty' vd) (hfa : ∀ v ∈ vs, fits ty v = true) (hfb : ∀ v ∈ vd, fits ty' v = true) (hla : vs.length < 2 ^ 31) (hlb : vd.length < 2 ^ 31) (hty : (ty = ty' ∧ refKind ty = false) ∨ (refKind ty = true ∧ refKind ty' = true ∧ StoL Z h b ((vs.drop i).take n))) (h1 : ¬ sp < 0) (h2 : ¬ dp < 0) (h3 : ¬ nn < 0) (hi : sp.toNatClampNeg = i) (hj : dp.toNatClampNeg = j) (hn : nn.toNatClampNeg = n) (h4 : i + n ≤ vs.length) (h5 : j + n ≤ vd.length) (hvd : vd.take j ++ (vs.drop i).take n ++ vd.drop (j + n) = vd') {n0 : Nat} (N : Fr n0 locs) (ge : n0 ≤ b) (hls : Ls.size = maxL) (hf : 1 ≤ R.frames) (hW : (S.map fun v => v.category).sum ≤ W) (hlo : W + (nativeFrameWords "java/lang/System" "arraycopy" 5 + 11) ≤ R.locals) (hd : decode bytes pc = .ok (.invokestatic idx, 3)) (hp : pc + 3 = pc')
    (K : ∀ T' h' L, Stand p l e R s m args below meth c T' L cells slots → T'.heap = h' → Fr n0 L → Keep h h' [b] → AL Z h' b k' ty' vd' → Go p e below Fin' T' (mkF m pc' Ls S)) : Go p e below Fin' T (mkF m pc Ls (.int nn :: .int dp :: .ref b :: .int sp :: .ref a :: S)) := by
  subst hp
  subst hi hj hn hvd
  have za : vs.length.toInt32.toNatClampNeg = vs.length := by simp only [Int32.toNatClampNeg, len_toInt hla]; omega
  have zb : vd.length.toInt32.toNatClampNeg = vd.length := by simp only [Int32.toNatClampNeg, len_toInt hlb]; omega
  have na : ¬ vs.length.toInt32 < 0 := by simp only [Int32.lt_iff_toInt_lt, len_toInt hla, Int32.reduceToInt]; omega
  have nb : ¬ vd.length.toInt32 < 0 := by simp only [Int32.lt_iff_toInt_lt, len_toInt hlb, Int32.reduceToInt]; omega
  have A' : Arv Z h a k ty vs.length.toInt32 vs .null := A.arv na za hfa
  have B' : Arv Z h b k' ty' vd.length.toInt32 vd .null := B.arv nb zb hfb
  obtain ⟨T', h', L, X', e', N', K', R', st⟩ := cpA X C.1 C.2.1 C.2.2.1 w1 w2 w3 w4 eT A' B' hty h1 h2 h3 (by rw [za]; exact h4) (by rw [zb]; exact h5) (range_drop vs .null _ _ h4).symm h5 N ge (g := mkF m pc Ls (.int nn :: .int dp :: .ref b :: .int sp :: .ref a :: S)) rfl (by show Ls.size = _; rw [C.2.2.2.2.1]; exact hls) rfl (hb C.2.2.2.1 hd) hf (W := W) (by show 2 * 0 + _ ≤ _; omega) hlo
  exact (K T' h' L X' e' N' K' (AL.of_arv R' (by rw [zb]; simp; omega))).via st
theorem Go.castY (C : Cx p s m meth c Z own nm bytes maxL ret) (X : Stand p l e R s m args below meth c T locs cells slots) {idx : Nat} {K1 : String} {a : Addr} (w : (Cond.classLink own idx K1).before a0 Z = true) (eT : T.heap = h) (F : Ins Z h a K1 true) (hd : decode bytes pc = .ok (.checkcast idx, 3)) (hp : pc + 3 = pc')
    (K : ∀ T', Stand p l e R s m args below meth c T' locs cells slots → T'.heap = h → Go p e below Fin' T' (mkF m pc' Ls (.ref a :: S))) : Go p e below Fin' T (mkF m pc Ls (.ref a :: S)) := by
  subst hp
  obtain ⟨T', X', e', st⟩ := Jvm.RoadKit.castY X C.1 C.2.1 C.2.2.1 w eT F (g := mkF m pc Ls (.ref a :: S)) rfl rfl (hb C.2.2.2.1 hd)
  exact (K T' X' e').via st
theorem Go.instY (C : Cx p s m meth c Z own nm bytes maxL ret) (X : Stand p l e R s m args below meth c T locs cells slots) {idx : Nat} {K1 : String} {a : Addr} (w : (Cond.classLink own idx K1).before a0 Z = true) (eT : T.heap = h) (F : Ins Z h a K1 true) (hd : decode bytes pc = .ok (.instanceof idx, 3)) (hp : pc + 3 = pc')
    (K : ∀ T', Stand p l e R s m args below meth c T' locs cells slots → T'.heap = h → Go p e below Fin' T' (mkF m pc' Ls (.int 1 :: S))) : Go p e below Fin' T (mkF m pc Ls (.ref a :: S)) := by
  subst hp
  obtain ⟨T', X', e', st⟩ := Jvm.RoadKit.instY X C.1 C.2.1 C.2.2.1 w eT F (g := mkF m pc Ls (.ref a :: S)) rfl rfl (hb C.2.2.2.1 hd)
  exact (K T' X' e').via st
theorem NS.rootI {O K1 : String} {n : Nat} (w : (Cond.noSuperclass O).before a0 Z = true) (wk : (Cond.instantiable K1 n).before a0 Z = true) (hn : O ≠ K1) : NS Z O K1 := by
  obtain ⟨c, k, h1, h2, h3, -, -⟩ := Cond.noSuperclass_spec w
  obtain ⟨t, -, g1, -⟩ := Cond.instantiable_spec wk
  have ne := ids_ne h1 g1 hn
  refine ⟨c, t, h1, g1, fun fuel => ?_⟩
  cases fuel with
  | zero => rfl
  | succ f => simp [Vm.isSubclassAux, ne, h2, h3]
theorem NS.noI {K0 S0 K1 : String} {n : Nat} (w : (Cond.superclass K0 S0).before a0 Z = true) (wk : (Cond.instantiable K1 n).before a0 Z = true) (N : NS Z K0 K1) (hn : K0 ≠ K1) : ∃ c t, Z.vm.findClass K0 = some c ∧ Z.vm.findClass K1 = some t ∧ Z.vm.assignable c t = false := by
  obtain ⟨c, t, h0, g0, n3⟩ := N
  obtain ⟨p, k, kp, h1, h2, h3, h4, h5, -, h7⟩ := Cond.superclass_spec h0 w
  obtain ⟨t', k', g1, g2, g3, g4, -⟩ := Cond.instantiable_spec wk
  cases g0.symm.trans g1
  have ne := ids_ne h0 g0 hn
  have gi : k'.isInterface = false := by
    cases q : k'.isInterface with
    | false => rfl
    | true => simp [q] at g4
  refine ⟨c, t, h0, g0, ?_⟩
  show Z.vm.assignableAux (255 + 1) c t = false
  simp [Vm.assignableAux, ne, h2, g2, h5, g3, gi, Vm.isSubclass, n3]
theorem Go.instNull (C : Cx p s m meth c Z own nm bytes maxL ret) (X : Stand p l e R s m args below meth c T locs cells slots) {idx : Nat}  (hd : decode bytes pc = .ok (.instanceof idx, 3)) (hp : pc + 3 = pc')
    (K : Go p e below Fin' T (mkF m pc' Ls (.int 0 :: S))) : Go p e below Fin' T (mkF m pc Ls (.null :: S)) := by
  subst hp
  exact K.via (X.instanceofNull C.1 (g := mkF m pc Ls (.null :: S)) rfl rfl (hb C.2.2.2.1 hd))
theorem Go.stC (C : Cx p s m meth c Z own nm bytes maxL ret) (X : Stand p l e R s m args below meth c T locs cells slots) {a : Addr} {k : ClassId} {vs vs' : List Value} {j : Int32} {i : Nat} {x x' : Int32} (eT : T.heap = h) (F : AL Z h a k .char vs) (hj : ¬ j < 0) (hji : j.toNatClampNeg = i) (hi : i < vs.length) (hx : (nar .char x) = x') (hvs : vs.set i (.int x') = vs') (hd : decode bytes pc = .ok (.castore, 1)) (hp : pc + 1 = pc')
    (K : ∀ T' h', Stand p l e R s m args below meth c T' (locs ++ [⟨a, i⟩]) cells slots → T'.heap = h' → Wr h h' a i (.int x') → AL Z h' a k .char vs' → Go p e below Fin' T' (mkF m pc' Ls S)) : Go p e below Fin' T (mkF m pc Ls (.int x :: .int j :: .ref a :: S)) := by
  subst hp
  subst hji hvs hx
  have F0 := F
  obtain ⟨cl, A, q1, q2⟩ := F
  obtain ⟨T', h', X', e', W', st⟩ := Jvm.RoadKit.stC X C.1 C.2.1 eT A (j := j) (fun q => q.elim hj fun y => by rw [q2] at y; simp at y; omega) (g := mkF m pc Ls (.int x :: .int j :: .ref a :: S)) rfl rfl (hb C.2.2.2.1 hd)
  exact (K T' h' X' e' W' (F0.set W')).via st
theorem Go.stB (C : Cx p s m meth c Z own nm bytes maxL ret) (X : Stand p l e R s m args below meth c T locs cells slots) {a : Addr} {k : ClassId} {vs vs' : List Value} {j : Int32} {i : Nat} {x x' : Int32} (eT : T.heap = h) (F : AL Z h a k .byte vs) (hj : ¬ j < 0) (hji : j.toNatClampNeg = i) (hi : i < vs.length) (hx : (nar .byte x) = x') (hvs : vs.set i (.int x') = vs') (hd : decode bytes pc = .ok (.bastore, 1)) (hp : pc + 1 = pc')
    (K : ∀ T' h', Stand p l e R s m args below meth c T' (locs ++ [⟨a, i⟩]) cells slots → T'.heap = h' → Wr h h' a i (.int x') → AL Z h' a k .byte vs' → Go p e below Fin' T' (mkF m pc' Ls S)) : Go p e below Fin' T (mkF m pc Ls (.int x :: .int j :: .ref a :: S)) := by
  subst hp
  subst hji hvs hx
  have F0 := F
  obtain ⟨cl, A, q1, q2⟩ := F
  obtain ⟨T', h', X', e', W', st⟩ := Jvm.RoadKit.stB X C.1 C.2.1 eT A (j := j) (fun q => q.elim hj fun y => by rw [q2] at y; simp at y; omega) (g := mkF m pc Ls (.int x :: .int j :: .ref a :: S)) rfl rfl (hb C.2.2.2.1 hd)
  exact (K T' h' X' e' W' (F0.set W')).via st
theorem AL.sto {a y : Addr} {k : ClassId} {ty : FieldType} {vs : List Value} {K1 : String} (F : AL Z h a k ty vs) (O : Ovr Z k K1) (I : Ins Z h y K1 true) : Sto Z h a (.ref y) := by
  obtain ⟨c, A, r, -⟩ := F; exact Sto.ofV A r O I
theorem Go.ldC (C : Cx p s m meth c Z own nm bytes maxL ret) (X : Stand p l e R s m args below meth c T locs cells slots) {a : Addr} {k : ClassId} {vs : List Value} {j : Int32} {i : Nat} {v : Value} (eT : T.heap = h) (F : AL Z h a k .char vs) (hj : ¬ j < 0) (hji : j.toNatClampNeg = i) (hv : vs[i]? = some v) (hd : decode bytes pc = .ok (.caload, 1)) (hp : pc + 1 = pc')
    (K : Go p e below Fin' T (mkF m pc' Ls (v :: S))) : Go p e below Fin' T (mkF m pc Ls (.int j :: .ref a :: S)) := by
  subst hp
  subst hji
  obtain ⟨cl, A, q1, q2⟩ := F
  have hlt : j.toNatClampNeg < vs.length := (List.getElem?_eq_some_iff.mp hv).1
  exact K.via fun t k => X.caload C.1 (j := j) (v := v) (by rw [eT]; exact A.1) (State.isArrayOf_alike C.2.1.alike A.2.1) A.2.2 (fun q => q.elim hj fun y => by rw [q2] at y; simp at y; omega) (by rw [q2]; simpa using hv) (g := mkF m pc Ls (.int j :: .ref a :: S)) rfl rfl (hb C.2.2.2.1 hd) t k
theorem Go.ldB (C : Cx p s m meth c Z own nm bytes maxL ret) (X : Stand p l e R s m args below meth c T locs cells slots) {a : Addr} {k : ClassId} {vs : List Value} {j : Int32} {i : Nat} {v : Value} (eT : T.heap = h) (F : AL Z h a k .byte vs) (hj : ¬ j < 0) (hji : j.toNatClampNeg = i) (hv : vs[i]? = some v) (hd : decode bytes pc = .ok (.baload, 1)) (hp : pc + 1 = pc')
    (K : Go p e below Fin' T (mkF m pc' Ls (v :: S))) : Go p e below Fin' T (mkF m pc Ls (.int j :: .ref a :: S)) := by
  subst hp
  subst hji
  obtain ⟨cl, A, q1, q2⟩ := F
  have hlt : j.toNatClampNeg < vs.length := (List.getElem?_eq_some_iff.mp hv).1
  exact K.via fun t k => X.baloadBytes C.1 (j := j) (v := v) (by rw [eT]; exact A.1) (State.isArrayOf_alike C.2.1.alike A.2.1) A.2.2 (fun q => q.elim hj fun y => by rw [q2] at y; simp at y; omega) (by rw [q2]; simpa using hv) (g := mkF m pc Ls (.int j :: .ref a :: S)) rfl rfl (hb C.2.2.2.1 hd) t k
theorem Go.alen (C : Cx p s m meth c Z own nm bytes maxL ret) (X : Stand p l e R s m args below meth c T locs cells slots) {a : Addr} {k : ClassId} {ty : FieldType} {vs : List Value} {z : Int32} (eT : T.heap = h) (F : AL Z h a k ty vs) (hz : vs.length.toInt32 = z) (hd : decode bytes pc = .ok (.arraylength, 1)) (hp : pc + 1 = pc')
    (K : Go p e below Fin' T (mkF m pc' Ls (.int z :: S))) : Go p e below Fin' T (mkF m pc Ls (.ref a :: S)) := by
  subst hp
  subst hz
  obtain ⟨cl, A, q1, q2⟩ := F
  have q3 : cl.slots.size = vs.length := by rw [q2]; simp
  refine K.via fun t k => X.arraylength C.1 (by rw [eT]; exact A.1) (State.isArrayOf_alike C.2.1.alike A.2.1) (g := mkF m pc Ls (.ref a :: S)) rfl rfl (hb C.2.2.2.1 hd) t ?_
  rw [q3]; exact k
/-! calls -/
theorem Go.initO (C : Cx p s m meth c Z own nm bytes maxL ret) (X : Stand p l e R s m args below meth c T locs cells slots) {idx : Nat} {a : Addr} (w1 : (Cond.methodLink own idx Lib.objectInit).before a0 Z = true) (w2 : (Cond.instanceMethod Lib.objectInit).before a0 Z = true) (w3 : (Cond.code Lib.objectInit ⟨#[0xb1]⟩ 1 none).before a0 Z = true) (eT : T.heap = h) (hls : Ls.size = maxL) (hf : 1 ≤ R.frames) {W : Nat} (hW : (S.map fun v => v.category).sum ≤ W) (hl : W + 12 ≤ R.locals) (hd : decode bytes pc = .ok (.invokespecial idx, 3)) (hp : pc + 3 = pc')
    (K : ∀ T', Stand p l e R s m args below meth c T' locs cells slots → T'.heap = h → Go p e below Fin' T' (mkF m pc' Ls S)) : Go p e below Fin' T (mkF m pc Ls (.ref a :: S)) := by
  subst hp
  obtain ⟨T', X', e', st⟩ := Jvm.RoadKit.initO X C.1 C.2.1 C.2.2.1 w1 w2 w3 eT (g := mkF m pc Ls (.ref a :: S)) rfl (by rw [C.2.2.2.2.1]; exact hls) rfl (hb C.2.2.2.1 hd) hf (W := W) (by show 2 * 0 + _ ≤ _; omega) hl
  exact (K T' X' e').via st
theorem Go.callS (C : Cx p s m meth c Z own nm bytes maxL ret) (X : Stand p l e R s m args below meth c T locs cells slots) {idx : Nat} {y : MethodName} {bytes' : ByteArray} {maxL' : Nat} {ret' : Option FieldType} {rm : Room} {as' : Array Value} {Q' : Option Value → Heap → List Loc → Prop} {argsL rest : List Value} {ps : List FieldType} {r : Option FieldType} {W : Nat} (w1 : (Cond.methodLink own idx y).before a0 Z = true) (w2 : (Cond.static y).before a0 Z = true) (hy : y.cls ≠ "java/lang/invoke/MethodHandle" ∧ y.cls ≠ "java/lang/invoke/VarHandle") (M : Met1 l Z y bytes' maxL' ret' rm as' h Q') (wc : (Cond.code y bytes' maxL' ret').before a0 Z = true) (wz : (Cond.initialized y.cls).before a0 Z = true) (eT : T.heap = h) (hS : S = argsL.reverse ++ rest) (has : (argsL).toArray = as') (pd : parseMethodDescriptor y.desc = some ⟨ps, r⟩) (hlen : argsL.length = ps.length) (hW : (rest.map fun v => v.category).sum ≤ W) (hls : Ls.size = maxL) (hf : rm.frames + 1 ≤ R.frames) (hlo : W + (maxL' + 11) + rm.locals ≤ R.locals) (hc : cells + rm.cells ≤ R.cells) (hs : slots + rm.slots ≤ R.slots) (hd : decode bytes pc = .ok (.invokestatic idx, 3)) (hp : pc + 3 = pc')
    (K : ∀ T' v L, Stand p l e R s m args below meth c T' (locs ++ L) (cells + rm.cells) (slots + rm.slots) → Q' v T'.heap L → Go p e below Fin' T' (mkF m pc' Ls (v.toList ++ rest))) : Go p e below Fin' T (mkF m pc Ls S) := by
  subst hp
  subst hS has
  obtain ⟨v, _, ⟨T', L', k', n'⟩, -, X', ⟨L, hQ, l', y', z'⟩, st⟩ := Jvm.LawKit.callS X C.1 (y := y) C.2.2.1 (mvT C.2.1 w1) (mvT C.2.1 w2) (mvT C.2.1 wz) (mvT C.2.1 wc) hy (backOf (W := W) (M []) C.2.1 wc wz hf hlo) (g := mkF m pc Ls (argsL.reverse ++ rest)) rfl (by show Ls.size = _; rw [C.2.2.2.2.1]; exact hls) (argsL := argsL) (rest := rest) (lenOf pd hlen) rfl (by show 2 * 0 + _ ≤ _; omega) (hb C.2.2.2.1 hd) (fun _ _ => ⟨rfl, eT, hc, hs⟩)
  dsimp only [Pt.U, Pt.locs, Pt.cells, Pt.slots] at X' l' y' z' st hQ
  subst l' y' z'
  exact (K T' v L X' hQ).via st
theorem Go.callI (C : Cx p s m meth c Z own nm bytes maxL ret) (X : Stand p l e R s m args below meth c T locs cells slots) {idx : Nat} {y : MethodName} {a : Addr} {bytes' : ByteArray} {maxL' : Nat} {ret' : Option FieldType} {rm : Room} {as' : Array Value} {Q' : Option Value → Heap → List Loc → Prop} {argsL rest : List Value} {ps : List FieldType} {r : Option FieldType} {W : Nat} (hini : y.name = "<init>") (w1 : (Cond.methodLink own idx y).before a0 Z = true) (w2 : (Cond.instanceMethod y).before a0 Z = true) (hy : y.cls ≠ "java/lang/invoke/MethodHandle" ∧ y.cls ≠ "java/lang/invoke/VarHandle") (M : Met1 l Z y bytes' maxL' ret' rm as' h Q') (wc : (Cond.code y bytes' maxL' ret').before a0 Z = true) (wz : (Cond.initialized y.cls).before a0 Z = true) (eT : T.heap = h) (hS : S = argsL.reverse ++ .ref a :: rest) (has : (.ref a :: argsL).toArray = as') (pd : parseMethodDescriptor y.desc = some ⟨ps, r⟩) (hlen : argsL.length = ps.length) (hW : (rest.map fun v => v.category).sum ≤ W) (hls : Ls.size = maxL) (hf : rm.frames + 1 ≤ R.frames) (hlo : W + (maxL' + 11) + rm.locals ≤ R.locals) (hc : cells + rm.cells ≤ R.cells) (hs : slots + rm.slots ≤ R.slots) (hr0 : ret' = none) (hd : decode bytes pc = .ok (.invokespecial idx, 3)) (hp : pc + 3 = pc')
    (K : ∀ T' v L, Stand p l e R s m args below meth c T' (locs ++ L) (cells + rm.cells) (slots + rm.slots) → Q' v T'.heap L → Go p e below Fin' T' (mkF m pc' Ls (v.toList ++ rest))) : Go p e below Fin' T (mkF m pc Ls S) := by
  subst hp
  subst hr0
  subst hS has
  obtain ⟨v, _, ⟨T', L', k', n'⟩, -, X', ⟨L, hQ, l', y', z'⟩, st⟩ := X.specialBack C.1 (y := y) hini C.2.2.1 (mvT C.2.1 w1) (mvT C.2.1 w2) (mvT C.2.1 wc) hy (backOf (W := W) (M []) C.2.1 wc wz hf hlo) (g := mkF m pc Ls (argsL.reverse ++ .ref a :: rest)) rfl (by show Ls.size = _; rw [C.2.2.2.2.1]; exact hls) (Steps.refl _) (a := a) (argsL := argsL) (rest := rest) (lenOf pd hlen) rfl (by show 2 * 0 + _ ≤ _; omega) (hb C.2.2.2.1 hd) (fun _ _ => ⟨rfl, eT, hc, hs⟩)
  dsimp only [Pt.U, Pt.locs, Pt.cells, Pt.slots] at X' l' y' z' st hQ
  subst l' y' z'
  exact (K T' v L X' hQ).via fun t k => st.trans k
theorem Go.callV (C : Cx p s m meth c Z own nm bytes maxL ret) (X : Stand p l e R s m args below meth c T locs cells slots) {idx : Nat} {y z : MethodName} {a : Addr} {K1 : String} {bytes' : ByteArray} {maxL' : Nat} {ret' : Option FieldType} {rm : Room} {as' : Array Value} {Q' : Option Value → Heap → List Loc → Prop} {argsL rest : List Value} {ps : List FieldType} {r : Option FieldType} {W : Nat} (w1 : (Cond.methodLink own idx y).before a0 Z = true) (w2 : (Cond.declares y).before a0 Z = true) (hnf : NotFace s y) (w3 : (Cond.selects K1 y z).before a0 Z = true) (w4 : (Cond.instanceMethod z).before a0 Z = true) (E : Exa Z h a K1) (hy : y.cls ≠ "java/lang/invoke/MethodHandle" ∧ y.cls ≠ "java/lang/invoke/VarHandle") (M : Met1 l Z z bytes' maxL' ret' rm as' h Q') (wc : (Cond.code z bytes' maxL' ret').before a0 Z = true) (wz : (Cond.initialized z.cls).before a0 Z = true) (eT : T.heap = h) (hS : S = argsL.reverse ++ .ref a :: rest) (has : (.ref a :: argsL).toArray = as') (pd : parseMethodDescriptor y.desc = some ⟨ps, r⟩) (hlen : argsL.length = ps.length) (hW : (rest.map fun v => v.category).sum ≤ W) (hls : Ls.size = maxL) (hf : rm.frames + 1 ≤ R.frames) (hlo : W + (maxL' + 11) + rm.locals ≤ R.locals) (hc : cells + rm.cells ≤ R.cells) (hs : slots + rm.slots ≤ R.slots) (hd : decode bytes pc = .ok (.invokevirtual idx, 3)) (hp : pc + 3 = pc')
    (K : ∀ T' v L, Stand p l e R s m args below meth c T' (locs ++ L) (cells + rm.cells) (slots + rm.slots) → Q' v T'.heap L → Go p e below Fin' T' (mkF m pc' Ls (v.toList ++ rest))) : Go p e below Fin' T (mkF m pc Ls S) := by
  subst hp
  obtain ⟨cq, kq, qa, qb, qc⟩ := isOf C.2.1 eT E
  subst hS has
  obtain ⟨v, _, ⟨T', L', k', n'⟩, -, X', ⟨L, hQ, l', y', z'⟩, st⟩ := X.virtualBack C.1 (y := y) (z := z) C.2.2.1 (mvT C.2.1 w1) (mvT C.2.1 w2) hnf (mvT C.2.1 w3) (mvT C.2.1 w4) hy (backOf (W := W) (M []) C.2.1 wc wz hf hlo) qa qc (g := mkF m pc Ls (argsL.reverse ++ .ref a :: rest)) rfl (by show Ls.size = _; rw [C.2.2.2.2.1]; exact hls) (Steps.refl _) (argsL := argsL) (rest := rest) (lenOf pd hlen) rfl (by show 2 * 0 + _ ≤ _; omega) (hb C.2.2.2.1 hd) (fun _ _ => ⟨rfl, eT, hc, hs⟩)
  dsimp only [Pt.U, Pt.locs, Pt.cells, Pt.slots] at X' l' y' z' st hQ
  subst l' y' z'
  exact (K T' v L X' hQ).via fun t k => st.trans k
theorem notFace_at {y : MethodName} {K1 : String} (hZ : Z.Warmed39 s.vm) (w : (Cond.selects K1 y y).before a0 Z = true) : NotFace s y := notFace_of_selects (args := #[]) (mvT hZ w)
end Own
end Jvm.RoadKit

namespace Jvm.RoadKit
open Sem ClassFile Op Lib Jvm.Stand Jvm.Free Jvm.LawKit
section OwnW
variable {p : Program} {l : Launch} {e : Env} {R : Room} {s : State} {m : MethodId} {args : Array Value} {below : List Frame} {meth : Method} {c : Code} {T : State} {locs : List Loc} {cells slots : Nat} {Z : State} {a0 : Array Value} {h : Heap}
variable {RC RS : Nat} {Q : Option Value → Heap → List Loc → Prop} {Fin' : Outcome → State → Prop} {own nm : String} {bytes : ByteArray} {maxL : Nat} {ret : Option FieldType} {pc pc' : Nat} {Ls Ls' : Array Slot} {S : List Value}
/-- sC is s but for its tables, which have grown as the run may let them; h: the heap now -/
def Sin (s sC : State) (h : Heap) : Prop := ∃ (vm : Vm) (k : Nat), sC = s.setVm vm ∧ s.Since vm k ∧ k ≤ h.size
theorem Sin.start (s : State) (h : Heap) : Sin s s h := ⟨s.vm, 0, rfl, (State.WarmedH.refl s).since 0, Nat.zero_le _⟩
theorem Sin.mono {sC : State} {h1 h2 : Heap} (Si : Sin s sC h1) (q : h1.size ≤ h2.size) : Sin s sC h2 := by obtain ⟨vm, k, a, b, c⟩ := Si; exact ⟨vm, k, a, b, Nat.le_trans c q⟩
theorem Cx.move {vm' : Vm} (C : Cx p s m meth c Z own nm bytes maxL ret) (hW : s.Warmed39 vm') : Cx p (s.setVm vm') m meth c Z own nm bytes maxL ret :=
  ⟨C.1, State.Warmed39.trans C.2.1 hW, by rw [show (s.setVm vm').vm = vm' from rfl, hW.alike.findClass]; exact C.2.2.1, C.2.2.2⟩
def FnW (s : State) (RC RS : Nat) (Q : Option Value → Heap → List Loc → Prop) (o : Outcome) (t : State) : Prop := ∃ v L, o = .returned v ∧ Q v t.heap L ∧ ReturnedEndW s o t L RC RS
def Met1W (l : Launch) (Z : State) (y : MethodName) (bytes : ByteArray) (maxL : Nat) (ret : Option FieldType) (rm : Room) (as' : Array Value) (h0 : Heap) (Q : Option Value → Heap → List Loc → Prop) : Prop :=
  ∀ ws : List Jvm.Cond, MetFree l y (head1 (Jvm.Cond.code y bytes maxL ret :: ws) rm) (fun a U => a = as' ∧ Z.Warmed39 U.vm ∧ U.heap = h0) (fun _ _ _ _ _ => True) (fun _ U o U' => ∃ v L, o = .returned v ∧ Q v U'.heap L ∧ ReturnedEndW U o U' L rm.cells rm.slots)
theorem Met1W.of_body {y : MethodName} {rm : Room} {as' : Array Value} {h0 : Heap} (hp : plainFor y = true) (ef : ∀ m, entryFrame m as' maxL = mkF m 0 Ls [])
    (body : ∀ {p : Program} {e : Env} {s : State} {m : MethodId} {below : List Frame} {meth : Method} {c : Code} {T : State}, Cx p s m meth c Z y.cls y.name bytes maxL ret → Stand p l e rm s m as' below meth c T [] 0 0 → T.heap = h0 → Go p e below (FnW s rm.cells rm.slots Q) T (mkF m 0 Ls [])) :
    Met1W l Z y bytes maxL ret rm as' h0 Q := by
  intro ws
  refine MetFree.of_bodySF hp hisR ?_
  intro p e s m args below meth c s₁ Bd hml0 hP hK
  obtain ⟨rfl, hZ, hh⟩ := hP
  have X0 : Stand p l e rm s m args below meth c s₁ [] 0 0 := Stand.of_body Bd
  have hlk : meth.locks = false := BodyLoose.notSynchronized Bd
  obtain ⟨s₂, o, st, r1, r2, r3⟩ := body (p := p) (e := e) (s := s) (m := m) (below := below) (meth := meth) (c := c) (T := s₁) ⟨Bd.exec, hZ, findClass_of_methodNamed Bd.named, Bd.bytes, hml0, Bd.returns, (name_of_methodNamed Bd.named Bd.method).1, hlk⟩ X0 (by rw [← hh, Bd.state]; rfl)
  exact ⟨s₂, o, castTop (ef m) st, r1, r2, r3⟩
end OwnW
end Jvm.RoadKit
namespace Jvm.RoadKit
open Sem ClassFile Op Lib Bundle Jvm.Stand Jvm.Free Jvm.LawKit
section OwnH
variable {p : Program} {l : Launch} {e : Env} {R : Room} {s : State} {m : MethodId} {args : Array Value} {below : List Frame} {meth : Method} {c : Code} {T : State} {locs : List Loc} {cells slots : Nat} {Z : State} {a0 : Array Value} {h : Heap}
variable {RC RS : Nat} {Q : Option Value → Heap → List Loc → Prop} {Fin' : Outcome → State → Prop} {own nm : String} {bytes : ByteArray} {maxL : Nat} {ret : Option FieldType} {pc pc' : Nat} {Ls Ls' : Array Slot} {S : List Value} {EL : List (String × Nat)} {sf : List Addr}
def FnH (Z : State) (EL : List (String × Nat)) (s : State) (h0 : Heap) (RC RS : Nat) (Q : Option Value → Heap → List Loc → Prop) (o : Outcome) (t : State) : Prop := ∃ v L, o = .returned v ∧ Q v t.heap L ∧ CHr Z EL s.vm h0 t.vm t.heap ∧ ReturnedEndW s o t L RC RS
def Met1H (EL : List (String × Nat)) (sf : List Addr) (l : Launch) (Z : State) (y : MethodName) (bytes : ByteArray) (maxL : Nat) (ret : Option FieldType) (rm : Room) (as' : Array Value) (h0 : Heap) (Q : Option Value → Heap → List Loc → Prop) : Prop :=
  ∀ ws : List Jvm.Cond, MetFree l y (head1 (Jvm.Cond.code y bytes maxL ret :: ws) rm) (fun a U => a = as' ∧ Z.Warmed39 U.vm ∧ U.heap = h0 ∧ CHv Z EL U.vm h0 ∧ ∀ x ∈ sf, Safe Z EL U.vm h0 x) (fun _ _ _ _ _ => True) (fun _ U o U' => ∃ v L, o = .returned v ∧ Q v U'.heap L ∧ CHr Z EL U.vm U.heap U'.vm U'.heap ∧ ReturnedEndW U o U' L rm.cells rm.slots)
theorem Met1H.of_body {y : MethodName} {rm : Room} {as' : Array Value} {h0 : Heap} (hp : plainFor y = true) (ef : ∀ m, entryFrame m as' maxL = mkF m 0 Ls [])
    (body : ∀ {p : Program} {e : Env} {s : State} {m : MethodId} {below : List Frame} {meth : Method} {c : Code} {T : State}, Cx p s m meth c Z y.cls y.name bytes maxL ret → Stand p l e rm s m as' below meth c T [] 0 0 → T.heap = h0 → CHv Z EL s.vm h0 → (∀ x ∈ sf, Safe Z EL s.vm h0 x) → Go p e below (FnH Z EL s h0 rm.cells rm.slots Q) T (mkF m 0 Ls [])) :
    Met1H EL sf l Z y bytes maxL ret rm as' h0 Q := by
  intro ws
  refine MetFree.of_bodySF hp hisR ?_
  intro p e s m args below meth c s₁ Bd hml0 hP hK
  obtain ⟨rfl, hZ, hh, hH, hS⟩ := hP
  have X0 : Stand p l e rm s m args below meth c s₁ [] 0 0 := Stand.of_body Bd
  have hlk : meth.locks = false := BodyLoose.notSynchronized Bd
  obtain ⟨s₂, o, st, r1, r2, v, L, r3, r4, r5, r6⟩ := body (p := p) (e := e) (s := s) (m := m) (below := below) (meth := meth) (c := c) (T := s₁) ⟨Bd.exec, hZ, findClass_of_methodNamed Bd.named, Bd.bytes, hml0, Bd.returns, (name_of_methodNamed Bd.named Bd.method).1, hlk⟩ X0 (by rw [← hh, Bd.state]; rfl) hH hS
  exact ⟨s₂, o, castTop (ef m) st, r1, r2, v, L, r3, r4, by rw [hh]; exact r5, r6⟩
theorem Safe.al {x : Addr} {k : ClassId} {ty : FieldType} {vs : List Value} {vm : Vm} (hal : Z.vm.Alike vm) (A : AL Z h x k ty vs) (ht : ty ≠ .byte) : Safe Z EL vm h x := by obtain ⟨c, A, -⟩ := A; exact Safe.arr hal A ht
theorem backOfH {y : MethodName} {rm : Room} {len W : Nat} {as' : Array Value} {vm0 : Vm} (hM : Met1H EL sf l Z y bytes maxL ret rm as' h Q)
    (hZ : Z.Warmed39 vm0) (wc : (Cond.code y bytes maxL ret).before a0 Z = true) (wz : (Cond.initialized y.cls).before a0 Z = true) (hf : rm.frames + 1 ≤ R.frames) (hl : W + (maxL + 11) + rm.locals ≤ R.locals) (hEL : EW Z a0 EL) (H : CHv Z EL vm0 h) (hsf : ∀ x ∈ sf, x < h.size ∧ Safe Z EL vm0 h x) :
    BackS l R p e below (s.setVm vm0) args y len W (fun A a => a = as' ∧ A.U.heap = h ∧ A.cells + rm.cells ≤ R.cells ∧ A.slots + rm.slots ≤ R.slots)
      (fun A _ v B => ∃ L, Q v B.U.heap L ∧ B.locs = A.locs ++ L ∧ B.cells = A.cells + rm.cells ∧ B.slots = A.slots + rm.slots ∧ CHr Z EL vm0 h B.U.vm B.U.heap) :=
  BackS.of_freeW (bytes := bytes) (maxL := maxL) (ret := ret) (E := fun _ first o t L k n => k = rm.cells ∧ n = rm.slots ∧ (∃ v, o = .returned v ∧ Q v t.heap L) ∧ CHr Z EL first.vm first.heap t.vm t.heap) (hM []) hf hl
    (fun m meth c A a Y hp => have hU : Z.Warmed39 A.U.vm := wtrans (s := s.setVm vm0) hZ Y.warmed
      ⟨by show (Cond.and _ .tt).before a A.U = true; rw [Cond.before_and, mv hU wc]; rfl, mv hU wc, mv hU wz, hp.2.2.1, hp.2.2.2⟩)
    (fun m meth c A a g mk Y hp => ⟨hp.1, wtrans (s := s.setVm vm0) hZ Y.warmed, hp.2.1, (CHv.at Y hZ hEL H).1, fun x hx => (CHv.at Y hZ hEL H).safe (hsf x hx).1 (hsf x hx).2⟩) (fun _ _ _ _ _ _ _ _ _ => trivial)
    (fun _ _ _ _ ⟨v, L, h1, h2, h3, h4⟩ => ⟨L, _, _, h4, rfl, rfl, ⟨v, h1, h2⟩, h3⟩)
    (fun m meth c A a g mk v t L k n Y hp _ _ ⟨e1, e2, ⟨v', e3, e4⟩, e5⟩ => by
      cases e3; subst e1 e2
      refine ⟨L, e4, rfl, rfl, rfl, (CHv.at Y hZ hEL H).trans ?_⟩
      rw [← hp.2.1]; exact e5)
theorem Go.ldcH {sC : State} (C : Cx p sC m meth c Z own nm bytes maxL ret) (X : Stand p l e R sC m args below meth c T locs cells slots) (Si : Sin s sC h) (hEL : EW Z a0 EL) (H : CHv Z EL sC.vm h) {idx n : Nat} {text : String} {vs : List Value} {z : Int32} (w : (Cond.stringLink own idx text).before a0 Z = true) (wS : ∀ a ∈ Bundle.stringAtoms, a.before a0 Z = true) (eT : T.heap = h) (hmem : (own, idx) ∈ EL) (ht : (∀ c ∈ text.toList, c.toNat < 256) ∧ text.toList.map (fun c => Value.int (Jvm.Lit.byteI c.toNat.toUInt16)) = vs) (hz : ¬ z < 0) (hzl : z.toNatClampNeg = vs.length) (hn : 4 * text.toList.length ≤ n) (hbig : n ≤ 536870912) (hc : cells + 2 ≤ R.cells) (hl : slots + (n + 4) ≤ R.slots) (hd : decode bytes pc = .ok (.ldc idx, 2)) (hp : pc + 2 = pc')
    (K : ∀ T' h' a sC' b k, Cx p sC' m meth c Z own nm bytes maxL ret → Stand p l e R sC' m args below meth c T' locs (cells + 2) (slots + (n + 4)) → T'.heap = h' → Sin s sC' h' → Ext h h' → CHr Z EL sC.vm h sC'.vm h' → Exa Z h' a "java/lang/String" → Fld Z h' a "java/lang/String" "coder" "B" (.int 0) → Fld Z h' a "java/lang/String" "value" "[B" (.ref b) → AL Z h' b k .byte vs → (∀ x, Safe Z EL sC'.vm h' x → x ≠ a ∧ x ≠ b) → Go p e below Fin' T' (mkF m pc' Ls (.ref a :: S))) : Go p e below Fin' T (mkF m pc Ls S) := by
  subst hp
  obtain ⟨vm0, k0, rfl, hS, hk⟩ := Si
  obtain ⟨a, T', h', k1, b, k, X', e', E', hS', hk', hW', hf', p1, p2, p3, p4, -, -, hR, -, hne, st⟩ := Jvm.RoadKit.ldcCH X C.1 C.2.1 C.2.2.1 w wS eT hS hk hEL hmem H ht hz hzl (g := mkF m pc Ls S) rfl (hb C.2.2.2.1 hd) hn hbig hc hl
  exact (K T' h' a (s.setVm T'.vm) b k ⟨C.1, hW', hf', C.2.2.2⟩ X' e' ⟨T'.vm, k1, rfl, hS', hk'⟩ E' hR p1 p2 p3 (AL.of_arv p4 hzl) hne).via st
theorem Go.callSH {sC : State} (C : Cx p sC m meth c Z own nm bytes maxL ret) (X : Stand p l e R sC m args below meth c T locs cells slots) (Si : Sin s sC h) (hEL : EW Z a0 EL) (H : CHv Z EL sC.vm h) {idx : Nat} {y : MethodName} {bytes' : ByteArray} {maxL' : Nat} {ret' : Option FieldType} {rm : Room} {as' : Array Value} {Q' : Option Value → Heap → List Loc → Prop} {argsL rest : List Value} {ps : List FieldType} {r : Option FieldType} {W : Nat} (w1 : (Cond.methodLink own idx y).before a0 Z = true) (w2 : (Cond.static y).before a0 Z = true) (hy : y.cls ≠ "java/lang/invoke/MethodHandle" ∧ y.cls ≠ "java/lang/invoke/VarHandle") (hsf : ∀ x ∈ sf, x < h.size ∧ Safe Z EL sC.vm h x) (M : Met1H EL sf l Z y bytes' maxL' ret' rm as' h Q') (wc : (Cond.code y bytes' maxL' ret').before a0 Z = true) (wz : (Cond.initialized y.cls).before a0 Z = true) (eT : T.heap = h) (hS : S = argsL.reverse ++ rest) (has : (argsL).toArray = as') (pd : parseMethodDescriptor y.desc = some ⟨ps, r⟩) (hlen : argsL.length = ps.length) (hW : (rest.map fun v => v.category).sum ≤ W) (hls : Ls.size = maxL) (hf : rm.frames + 1 ≤ R.frames) (hlo : W + (maxL' + 11) + rm.locals ≤ R.locals) (hc : cells + rm.cells ≤ R.cells) (hs : slots + rm.slots ≤ R.slots) (hd : decode bytes pc = .ok (.invokestatic idx, 3)) (hp : pc + 3 = pc')
    (K : ∀ T' v L sC', Cx p sC' m meth c Z own nm bytes maxL ret → Stand p l e R sC' m args below meth c T' (locs ++ L) (cells + rm.cells) (slots + rm.slots) → Sin s sC' T'.heap → CHr Z EL sC.vm h sC'.vm T'.heap → Q' v T'.heap L → Go p e below Fin' T' (mkF m pc' Ls (v.toList ++ rest))) : Go p e below Fin' T (mkF m pc Ls S) := by
  subst hp
  subst hS has
  obtain ⟨vm0, k0, rfl, hS0, hk0⟩ := Si
  obtain ⟨v, _, ⟨T', L', k', n'⟩, -, X', hS2, hg2, ⟨L, hQ, l', y', z', hR⟩, st⟩ := Jvm.RoadKit.callSS X C.1 (y := y) C.2.2.1 (mvT C.2.1 w1) (mvT C.2.1 w2) (mvT C.2.1 wz) (mvT C.2.1 wc) hy (backOfH (s := s) (vm0 := vm0) (W := W) M C.2.1 wc wz hf hlo hEL H hsf) (g := mkF m pc Ls (argsL.reverse ++ rest)) rfl (by show Ls.size = _; rw [C.2.2.2.2.1]; exact hls) (argsL := argsL) (rest := rest) (lenOf pd hlen) rfl (by show 2 * 0 + _ ≤ _; omega) (hb C.2.2.2.1 hd) (fun _ _ => ⟨rfl, eT, hc, hs⟩)
  dsimp only [Pt.U, Pt.locs, Pt.cells, Pt.slots] at X' hS2 hg2 l' y' z' st hQ hR
  subst l' y' z'
  exact (K T' v L (s.setVm T'.vm) (C.move hS2.1) X' ⟨T'.vm, T'.heap.size, rfl, foldS hS0 (by rw [eT]; exact hk0) hS2 hg2, Nat.le_refl _⟩ hR hQ).via fun t k => st.trans k
theorem Go.callIH {sC : State} (C : Cx p sC m meth c Z own nm bytes maxL ret) (X : Stand p l e R sC m args below meth c T locs cells slots) (Si : Sin s sC h) (hEL : EW Z a0 EL) (H : CHv Z EL sC.vm h) {idx : Nat} {y : MethodName} {a : Addr} {bytes' : ByteArray} {maxL' : Nat} {ret' : Option FieldType} {rm : Room} {as' : Array Value} {Q' : Option Value → Heap → List Loc → Prop} {argsL rest : List Value} {ps : List FieldType} {r : Option FieldType} {W : Nat} (hini : y.name = "<init>") (w1 : (Cond.methodLink own idx y).before a0 Z = true) (w2 : (Cond.instanceMethod y).before a0 Z = true) (hy : y.cls ≠ "java/lang/invoke/MethodHandle" ∧ y.cls ≠ "java/lang/invoke/VarHandle") (hsf : ∀ x ∈ sf, x < h.size ∧ Safe Z EL sC.vm h x) (M : Met1H EL sf l Z y bytes' maxL' ret' rm as' h Q') (wc : (Cond.code y bytes' maxL' ret').before a0 Z = true) (wz : (Cond.initialized y.cls).before a0 Z = true) (eT : T.heap = h) (hS : S = argsL.reverse ++ .ref a :: rest) (has : (.ref a :: argsL).toArray = as') (pd : parseMethodDescriptor y.desc = some ⟨ps, r⟩) (hlen : argsL.length = ps.length) (hW : (rest.map fun v => v.category).sum ≤ W) (hls : Ls.size = maxL) (hf : rm.frames + 1 ≤ R.frames) (hlo : W + (maxL' + 11) + rm.locals ≤ R.locals) (hc : cells + rm.cells ≤ R.cells) (hs : slots + rm.slots ≤ R.slots) (hr0 : ret' = none) (hd : decode bytes pc = .ok (.invokespecial idx, 3)) (hp : pc + 3 = pc')
    (K : ∀ T' v L sC', Cx p sC' m meth c Z own nm bytes maxL ret → Stand p l e R sC' m args below meth c T' (locs ++ L) (cells + rm.cells) (slots + rm.slots) → Sin s sC' T'.heap → CHr Z EL sC.vm h sC'.vm T'.heap → Q' v T'.heap L → Go p e below Fin' T' (mkF m pc' Ls (v.toList ++ rest))) : Go p e below Fin' T (mkF m pc Ls S) := by
  subst hp
  subst hr0
  subst hS has
  obtain ⟨vm0, k0, rfl, hS0, hk0⟩ := Si
  obtain ⟨v, _, ⟨T', L', k', n'⟩, -, X', hS2, hg2, ⟨L, hQ, l', y', z', hR⟩, st⟩ := X.specialBackS C.1 (y := y) hini C.2.2.1 (mvT C.2.1 w1) (mvT C.2.1 w2) (mvT C.2.1 wc) hy (backOfH (s := s) (vm0 := vm0) (W := W) M C.2.1 wc wz hf hlo hEL H hsf) (g := mkF m pc Ls (argsL.reverse ++ .ref a :: rest)) rfl (by show Ls.size = _; rw [C.2.2.2.2.1]; exact hls) (Steps.refl _) (a := a) (argsL := argsL) (rest := rest) (lenOf pd hlen) rfl (by show 2 * 0 + _ ≤ _; omega) (hb C.2.2.2.1 hd) (fun _ _ => ⟨rfl, eT, hc, hs⟩)
  dsimp only [Pt.U, Pt.locs, Pt.cells, Pt.slots] at X' hS2 hg2 l' y' z' st hQ hR
  subst l' y' z'
  exact (K T' v L (s.setVm T'.vm) (C.move hS2.1) X' ⟨T'.vm, T'.heap.size, rfl, foldS hS0 (by rw [eT]; exact hk0) hS2 hg2, Nat.le_refl _⟩ hR hQ).via fun t k => st.trans k
theorem Go.callVH {sC : State} (C : Cx p sC m meth c Z own nm bytes maxL ret) (X : Stand p l e R sC m args below meth c T locs cells slots) (Si : Sin s sC h) (hEL : EW Z a0 EL) (H : CHv Z EL sC.vm h) {idx : Nat} {y z : MethodName} {a : Addr} {K1 : String} {bytes' : ByteArray} {maxL' : Nat} {ret' : Option FieldType} {rm : Room} {as' : Array Value} {Q' : Option Value → Heap → List Loc → Prop} {argsL rest : List Value} {ps : List FieldType} {r : Option FieldType} {W : Nat} (w1 : (Cond.methodLink own idx y).before a0 Z = true) (w2 : (Cond.declares y).before a0 Z = true) (hnf : NotFace sC y) (w3 : (Cond.selects K1 y z).before a0 Z = true) (w4 : (Cond.instanceMethod z).before a0 Z = true) (E : Exa Z h a K1) (hy : y.cls ≠ "java/lang/invoke/MethodHandle" ∧ y.cls ≠ "java/lang/invoke/VarHandle") (hsf : ∀ x ∈ sf, x < h.size ∧ Safe Z EL sC.vm h x) (M : Met1H EL sf l Z z bytes' maxL' ret' rm as' h Q') (wc : (Cond.code z bytes' maxL' ret').before a0 Z = true) (wz : (Cond.initialized z.cls).before a0 Z = true) (eT : T.heap = h) (hS : S = argsL.reverse ++ .ref a :: rest) (has : (.ref a :: argsL).toArray = as') (pd : parseMethodDescriptor y.desc = some ⟨ps, r⟩) (hlen : argsL.length = ps.length) (hW : (rest.map fun v => v.category).sum ≤ W) (hls : Ls.size = maxL) (hf : rm.frames + 1 ≤ R.frames) (hlo : W + (maxL' + 11) + rm.locals ≤ R.locals) (hc : cells + rm.cells ≤ R.cells) (hs : slots + rm.slots ≤ R.slots) (hd : decode bytes pc = .ok (.invokevirtual idx, 3)) (hp : pc + 3 = pc')
    (K : ∀ T' v L sC', Cx p sC' m meth c Z own nm bytes maxL ret → Stand p l e R sC' m args below meth c T' (locs ++ L) (cells + rm.cells) (slots + rm.slots) → Sin s sC' T'.heap → CHr Z EL sC.vm h sC'.vm T'.heap → Q' v T'.heap L → Go p e below Fin' T' (mkF m pc' Ls (v.toList ++ rest))) : Go p e below Fin' T (mkF m pc Ls S) := by
  subst hp
  subst hS has
  obtain ⟨cq, kq, qa, qb, qc⟩ := isOf C.2.1 eT E
  obtain ⟨vm0, k0, rfl, hS0, hk0⟩ := Si
  obtain ⟨v, _, ⟨T', L', k', n'⟩, -, X', hS2, hg2, ⟨L, hQ, l', y', z', hR⟩, st⟩ := X.virtualBackS C.1 (y := y) (z := z) C.2.2.1 (mvT C.2.1 w1) (mvT C.2.1 w2) hnf (mvT C.2.1 w3) (mvT C.2.1 w4) hy (backOfH (s := s) (vm0 := vm0) (W := W) M C.2.1 wc wz hf hlo hEL H hsf) qa qc (g := mkF m pc Ls (argsL.reverse ++ .ref a :: rest)) rfl (by show Ls.size = _; rw [C.2.2.2.2.1]; exact hls) (Steps.refl _) (argsL := argsL) (rest := rest) (lenOf pd hlen) rfl (by show 2 * 0 + _ ≤ _; omega) (hb C.2.2.2.1 hd) (fun _ _ => ⟨rfl, eT, hc, hs⟩)
  dsimp only [Pt.U, Pt.locs, Pt.cells, Pt.slots] at X' hS2 hg2 l' y' z' st hQ hR
  subst l' y' z'
  exact (K T' v L (s.setVm T'.vm) (C.move hS2.1) X' ⟨T'.vm, T'.heap.size, rfl, foldS hS0 (by rw [eT]; exact hk0) hS2 hg2, Nat.le_refl _⟩ hR hQ).via fun t k => st.trans k
theorem Go.retVH {sC : State} (C : Cx p sC m meth c Z own nm bytes maxL ret) (X : Stand p l e R sC m args below meth c T locs cells slots) {h0 : Heap} (Si : Sin s sC T.heap) (hEL : EW Z a0 EL) (H : CHr Z EL s.vm h0 sC.vm T.heap)  (hr : ret = none) (hd : decode bytes pc = .ok (.return_, 1))  (hq : Q none T.heap locs) (hc : cells ≤ RC) (hs : slots ≤ RS) : Go p e below (FnH Z EL s h0 RC RS Q) T (mkF m pc Ls []) := by
  have hret := C.2.2.2.2.2.1
  have hlk := C.2.2.2.2.2.2.2
  rw [hr] at hret
  obtain ⟨vm0, k0, rfl, hS0, hk0⟩ := Si
  have hR := H.trans (CHv.at X C.2.1 hEL H.1)
  obtain ⟨fs, hl, hrun, hended, hW⟩ := X.leaveW hS0 hk0 (v := none) (fun h => by first | rfl | (rw [hret] at h; cases h)) hlk
  exact ⟨_, _, X.returnOut C.1 hret (hb C.2.2.2.1 hd) hl, hrun, hended, _, _, rfl, hq, hR, hW.1, hW.2.1, hW.2.2.1, hW.2.2.2.mono hc hs⟩
theorem Go.retNH {sC : State} (C : Cx p sC m meth c Z own nm bytes maxL ret) (X : Stand p l e R sC m args below meth c T locs cells slots) {h0 : Heap} (Si : Sin s sC T.heap) (hEL : EW Z a0 EL) (H : CHr Z EL s.vm h0 sC.vm T.heap) {t : FieldType} {z : Int32} (hr : ret = some t) (hd : decode bytes pc = .ok (.ireturn, 1)) (ht : t = .boolean ∨ t = .byte ∨ t = .char ∨ t = .short) (hq : Q (some (.int (nar t z))) T.heap locs) (hc : cells ≤ RC) (hs : slots ≤ RS) : Go p e below (FnH Z EL s h0 RC RS Q) T (mkF m pc Ls (.int z :: S)) := by
  have hret := C.2.2.2.2.2.1
  have hlk := C.2.2.2.2.2.2.2
  rw [hr] at hret
  obtain ⟨vm0, k0, rfl, hS0, hk0⟩ := Si
  have hR := H.trans (CHv.at X C.2.1 hEL H.1)
  obtain ⟨fs, hl, hrun, hended, hW⟩ := X.leaveW hS0 hk0 (v := (some (.int (nar t z)))) (fun h => by first | rfl | (rw [hret] at h; cases h)) hlk
  exact ⟨_, _, Jvm.RoadKit.retN X C.1 hret ht (hb C.2.2.2.1 hd) hl, hrun, hended, _, _, rfl, hq, hR, hW.1, hW.2.1, hW.2.2.1, hW.2.2.2.mono hc hs⟩
theorem Go.retAH {sC : State} (C : Cx p sC m meth c Z own nm bytes maxL ret) (X : Stand p l e R sC m args below meth c T locs cells slots) {h0 : Heap} (Si : Sin s sC T.heap) (hEL : EW Z a0 EL) (H : CHr Z EL s.vm h0 sC.vm T.heap) {t : FieldType} {v : Value} (hr : ret = some t) (hd : decode bytes pc = .ok (.areturn, 1)) (ht : t.isReference = true) (hv : v.isRef = true) (hn : narrow t v = v) (hq : Q (some v) T.heap locs) (hc : cells ≤ RC) (hs : slots ≤ RS) : Go p e below (FnH Z EL s h0 RC RS Q) T (mkF m pc Ls (v :: S)) := by
  have hret := C.2.2.2.2.2.1
  have hlk := C.2.2.2.2.2.2.2
  rw [hr] at hret
  obtain ⟨vm0, k0, rfl, hS0, hk0⟩ := Si
  have hR := H.trans (CHv.at X C.2.1 hEL H.1)
  obtain ⟨fs, hl, hrun, hended, hW⟩ := X.leaveW hS0 hk0 (v := (some v)) (fun h => by first | rfl | (rw [hret] at h; cases h)) hlk
  exact ⟨_, _, retOut X C.1 hret hn (Or.inr (Or.inr (Or.inr (Or.inr ⟨rfl, ht, hv⟩)))) (hb C.2.2.2.1 hd) hl, hrun, hended, _, _, rfl, hq, hR, hW.1, hW.2.1, hW.2.2.1, hW.2.2.2.mono hc hs⟩
end OwnH
end Jvm.RoadKit
namespace Jvm.Pilot.@@N@@
open Jvm Jvm.ClassFile Sem Op Lib Jvm.Free Jvm.Stand Jvm.LawKit Jvm.RoadKit Bundle Jvm.Pilot.@@N@@.Jvm.D
theorem tw {a0 : Array Value} {Z : State} (hw : ∀ d ∈ tables_1, d.before a0 Z = true) (i : Nat) {d : Cond} (h : tables_1[i]? = some d) : d.before a0 Z = true := hw d (List.mem_of_getElem? h)
set_option maxRecDepth 65536
set_option maxHeartbeats 40000000
abbrev mN0 : MethodName := ⟨"java/lang/Math", "min", "(II)I"⟩
abbrev mN1 : MethodName := ⟨"java/lang/String", "<init>", "([BB)V"⟩
abbrev mN2 : MethodName := ⟨"java/lang/String", "<init>", "([C)V"⟩
abbrev mN3 : MethodName := ⟨"java/lang/String", "<init>", "([CIILjava/lang/Void;)V"⟩
abbrev mN4 : MethodName := ⟨"java/lang/String", "checkBoundsBeginEnd", "(III)V"⟩
abbrev mN5 : MethodName := ⟨"java/lang/String", "coder", "()B"⟩
abbrev mN6 : MethodName := ⟨"java/lang/String", "equals", "(Ljava/lang/Object;)Z"⟩
abbrev mN7 : MethodName := ⟨"java/lang/String", "isLatin1", "()Z"⟩
abbrev mN8 : MethodName := ⟨"java/lang/String", "lastIndexOf", "(I)I"⟩
abbrev mN9 : MethodName := ⟨"java/lang/String", "lastIndexOf", "(II)I"⟩
abbrev mN10 : MethodName := ⟨"java/lang/String", "length", "()I"⟩
abbrev mN11 : MethodName := ⟨"java/lang/String", "substring", "(I)Ljava/lang/String;"⟩
abbrev mN12 : MethodName := ⟨"java/lang/String", "substring", "(II)Ljava/lang/String;"⟩
abbrev mN13 : MethodName := ⟨"java/lang/StringLatin1", "canEncode", "(I)Z"⟩
abbrev mN14 : MethodName := ⟨"java/lang/StringLatin1", "equals", "([B[B)Z"⟩
abbrev mN15 : MethodName := ⟨"java/lang/StringLatin1", "lastIndexOf", "([BII)I"⟩
abbrev mN16 : MethodName := ⟨"java/lang/StringLatin1", "newString", "([BII)Ljava/lang/String;"⟩
abbrev mN17 : MethodName := ⟨"java/lang/StringUTF16", "coderFromArrayLen", "([BI)B"⟩
abbrev mN18 : MethodName := ⟨"java/lang/StringUTF16", "compress", "([CII)[B"⟩
abbrev mN19 : MethodName := ⟨"java/lang/StringUTF16", "compress", "([CI[BII)I"⟩
abbrev mN20 : MethodName := ⟨"java/util/Arrays", "checkLength", "(II)V"⟩
abbrev mN21 : MethodName := ⟨"java/util/Arrays", "copyOfRange", "([BII)[B"⟩
abbrev mN22 : MethodName := ⟨"java/util/Arrays", "copyOfRangeByte", "([BII)[B"⟩
abbrev mN23 : MethodName := ⟨"java/util/Objects", "requireNonNull", "(Ljava/lang/Object;)Ljava/lang/Object;"⟩
abbrev mN24 : MethodName := ⟨"java/util/Optional", "<init>", "(Ljava/lang/Object;)V"⟩
abbrev mN25 : MethodName := ⟨"java/util/Optional", "empty", "()Ljava/util/Optional;"⟩
abbrev mN26 : MethodName := ⟨"java/util/Optional", "get", "()Ljava/lang/Object;"⟩
abbrev mN27 : MethodName := ⟨"java/util/Optional", "isPresent", "()Z"⟩
abbrev mN28 : MethodName := ⟨"java/util/Optional", "of", "(Ljava/lang/Object;)Ljava/util/Optional;"⟩
abbrev mN29 : MethodName := ⟨"jdk/internal/util/Preconditions", "checkFromToIndex", "(IIILjava/util/function/BiFunction;)I"⟩
abbrev mN30 : MethodName := ⟨"se/bryggan/saml/EidAttribute", "scope", "(Ljava/lang/String;)Ljava/util/Optional;"⟩
abbrev mN31 : MethodName := ⟨"se/bryggan/saml/EidAttributeScopePinLaw", "ch", "(I)C"⟩
abbrev mN32 : MethodName := ⟨"se/bryggan/saml/EidAttributeScopePinLaw", "pick", "(CCCCI)C"⟩
abbrev mN33 : MethodName := ⟨"se/bryggan/saml/EidAttributeScopePinLaw", "str", "(CCCCII)Ljava/lang/String;"⟩
theorem n32_int {n : Nat} (h : n < 2 ^ 31) : n.toInt32.toInt = n := len_toInt h
theorem n32_nat {n : Nat} (h : n < 2 ^ 31) : n.toInt32.toNatClampNeg = n := by simp only [Int32.toNatClampNeg, len_toInt h]; omega
theorem n32_neg {n : Nat} (h : n < 2 ^ 31) : ¬ n.toInt32 < 0 := by simp only [Int32.lt_iff_toInt_lt, len_toInt h, Int32.reduceToInt]; omega
theorem n32_lt {n k : Nat} (hn : n < 2 ^ 31) (hk : k < 2 ^ 31) : n.toInt32 < k.toInt32 ↔ n < k := by rw [Int32.lt_iff_toInt_lt, len_toInt hn, len_toInt hk]; omega
theorem n32_succ (n : Nat) : n.toInt32 + (1 : Int32) = (n + 1).toInt32 := (Int32.ofNat_add n 1).symm
theorem n32_eq {n k : Nat} (hn : n < 2 ^ 31) (hk : k < 2 ^ 31) : n.toInt32 = k.toInt32 ↔ n = k := by rw [← Int32.toInt_inj, len_toInt hn, len_toInt hk]; omega
theorem nar_byte8 (x : Int32) : nar .byte x.toInt8.toInt32 = x.toInt8.toInt32 := by simp [nar]
def by8 (cs : List Int32) : List Value := cs.map fun c => Value.int c.toInt8.toInt32
def ch16 (cs : List Int32) : List Value := cs.map Value.int
theorem by8_len (cs : List Int32) : (by8 cs).length = cs.length := by simp [by8]
theorem ch16_len (cs : List Int32) : (ch16 cs).length = cs.length := by simp [ch16]

theorem d19_0 : decode jdk_52_method_21_code 0 = .ok (.iconst 0, 1) := by decide +kernel
theorem d19_1 : decode jdk_52_method_21_code 1 = .ok (.istore 5, 2) := by decide +kernel
theorem d19_3 : decode jdk_52_method_21_code 3 = .ok (.iload 5, 2) := by decide +kernel
theorem d19_5 : decode jdk_52_method_21_code 5 = .ok (.iload 4, 2) := by decide +kernel
theorem d19_7 : decode jdk_52_method_21_code 7 = .ok (.if_icmp .ge 37, 3) := by decide +kernel
theorem d19_10 : decode jdk_52_method_21_code 10 = .ok (.aload_n 0, 1) := by decide +kernel
theorem d19_11 : decode jdk_52_method_21_code 11 = .ok (.iload_n 1, 1) := by decide +kernel
theorem d19_12 : decode jdk_52_method_21_code 12 = .ok (.caload, 1) := by decide +kernel
theorem d19_13 : decode jdk_52_method_21_code 13 = .ok (.istore 6, 2) := by decide +kernel
theorem d19_15 : decode jdk_52_method_21_code 15 = .ok (.iload 6, 2) := by decide +kernel
theorem d19_17 : decode jdk_52_method_21_code 17 = .ok (.sipush 255, 3) := by decide +kernel
theorem d19_20 : decode jdk_52_method_21_code 20 = .ok (.if_icmp .le 6, 3) := by decide +kernel
theorem d19_23 : decode jdk_52_method_21_code 23 = .ok (.iload 5, 2) := by decide +kernel
theorem d19_25 : decode jdk_52_method_21_code 25 = .ok (.ireturn, 1) := by decide +kernel
theorem d19_26 : decode jdk_52_method_21_code 26 = .ok (.aload_n 2, 1) := by decide +kernel
theorem d19_27 : decode jdk_52_method_21_code 27 = .ok (.iload_n 3, 1) := by decide +kernel
theorem d19_28 : decode jdk_52_method_21_code 28 = .ok (.iload 6, 2) := by decide +kernel
theorem d19_30 : decode jdk_52_method_21_code 30 = .ok (.i2b, 1) := by decide +kernel
theorem d19_31 : decode jdk_52_method_21_code 31 = .ok (.bastore, 1) := by decide +kernel
theorem d19_32 : decode jdk_52_method_21_code 32 = .ok (.iinc 1 1, 3) := by decide +kernel
theorem d19_35 : decode jdk_52_method_21_code 35 = .ok (.iinc 3 1, 3) := by decide +kernel
theorem d19_38 : decode jdk_52_method_21_code 38 = .ok (.iinc 5 1, 3) := by decide +kernel
theorem d19_41 : decode jdk_52_method_21_code 41 = .ok (.goto (-38), 3) := by decide +kernel
theorem d19_44 : decode jdk_52_method_21_code 44 = .ok (.iload 4, 2) := by decide +kernel
theorem d19_46 : decode jdk_52_method_21_code 46 = .ok (.ireturn, 1) := by decide +kernel
theorem lp_compress {p : Program} {l : Launch} {e : Env} {R : Room} {s : State} {m : MethodId} {args : Array Value} {below : List Frame} {meth : Method} {c : Code} {Z : State} {Fin' : Outcome → State → Prop} {a b : Addr} {ka kb : ClassId} {cs : List Int32} (C : Cx p s m meth c Z "java/lang/StringUTF16" "compress" jdk_52_method_21_code 7 (some .int)) (hcs : ∀ x ∈ cs, 0 ≤ x.toInt ∧ x.toInt ≤ 255) (hl : cs.length < 2 ^ 31) (hne : a ≠ b) (hnb : Z.heap.size ≤ b) :
    ∀ (k n : Nat) (T : State) (locs : List Loc) (cells slots : Nat) (h : Heap) (s6 : Slot), n + k = cs.length → One s6 → Stand p l e R s m args below meth c T locs cells slots → T.heap = h → AL Z h a ka .char (ch16 cs) → AL Z h b kb .byte (by8 (cs.take n) ++ List.replicate k (.int 0)) → Fr Z.heap.size locs →
      (∀ (T' : State) (locs' : List Loc) (h' : Heap) (s6' : Slot), Stand p l e R s m args below meth c T' locs' cells slots → T'.heap = h' → Keep h h' [b] → AL Z h' b kb .byte (by8 cs) → Fr Z.heap.size locs' → Go p e below Fin' T' (mkF m 44 #[.val (.ref a), .val (.int cs.length.toInt32), .val (.ref b), .val (.int cs.length.toInt32), .val (.int cs.length.toInt32), .val (.int cs.length.toInt32), s6'] [])) →
      Go p e below Fin' T (mkF m 3 #[.val (.ref a), .val (.int n.toInt32), .val (.ref b), .val (.int n.toInt32), .val (.int cs.length.toInt32), .val (.int n.toInt32), s6] []) := by
  intro k
  induction k with
  | zero =>
    intro n T locs cells slots h s6 hn h6 X e0 A B N K
    have hn' : n = cs.length := by omega
    subst hn'
    refine Go.iload (pc' := 5) C X d19_3 rfl rfl ?_
    refine Go.iload (pc' := 7) C X d19_5 rfl rfl ?_
    refine Go.icmpYes (pc' := 44) C X d19_7 (flt (x := cs.length.toInt32) (y := cs.length.toInt32) (fun q => absurd ((n32_lt hl hl).mp q) (Nat.lt_irrefl _))).2.1 (by decide) (by decide) ?_
    exact K T locs h s6 X e0 (Keep.refl _ _) (by simpa using B) N
  | succ k ih =>
    intro n T locs cells slots h s6 hn h6 X e0 A B N K
    have hlt : n < cs.length := by omega
    have hn31 : n < 2 ^ 31 := by omega
    obtain ⟨x, hx⟩ : ∃ x, x = cs[n] := ⟨_, rfl⟩
    have hxm : x ∈ cs := hx ▸ List.getElem_mem hlt
    have hb := hcs x hxm
    have hget : (ch16 cs)[n]? = some (.int x) := by simp [ch16, hx, hlt]
    refine Go.iload (pc' := 5) C X d19_3 rfl rfl ?_
    refine Go.iload (pc' := 7) C X d19_5 rfl rfl ?_
    refine Go.icmpNo (pc' := 10) C X d19_7 (tlt (x := n.toInt32) (y := cs.length.toInt32) ((n32_lt hn31 hl).mpr hlt)).2.1 rfl ?_
    refine Go.aloadN (pc' := 11) C X d19_10 rfl rfl rfl ?_
    refine Go.iloadN (pc' := 12) C X d19_11 rfl rfl ?_
    refine Go.ldC (i := n) (v := .int x) (pc' := 13) C X e0 A (n32_neg hn31) (n32_nat hn31) hget d19_12 rfl ?_
    refine Go.istore (Ls' := #[.val (.ref a), .val (.int n.toInt32), .val (.ref b), .val (.int n.toInt32), .val (.int cs.length.toInt32), .val (.int n.toInt32), .val (.int x)]) (pc' := 15) C X d19_13 (XS.store1 (o := s6) rfl h6 rfl) rfl ?_
    refine Go.iload (pc' := 17) C X d19_15 rfl rfl ?_
    refine Go.sipush (z := (255 : Int32)) (pc' := 20) C X d19_17 rfl rfl ?_
    refine Go.icmpYes (pc' := 26) C X d19_20 (flt (x := (255 : Int32)) (y := x) (fun q => absurd (Int32.lt_iff_toInt_lt.mp q) (by simp only [Int32.reduceToInt]; omega))).2.2.2 (by decide) (by decide) ?_
    refine Go.aloadN (pc' := 27) C X d19_26 rfl rfl rfl ?_
    refine Go.iloadN (pc' := 28) C X d19_27 rfl rfl ?_
    refine Go.iload (pc' := 30) C X d19_28 rfl rfl ?_
    refine Go.i2b (pc' := 31) C X d19_30 rfl ?_
    refine Go.stB (i := n) (x' := x.toInt8.toInt32) (vs' := by8 (cs.take (n + 1)) ++ List.replicate k (.int 0)) (pc' := 32) C X e0 B (n32_neg hn31) (n32_nat hn31) (by simp [by8]; omega) (nar_byte8 x) ?_ d19_31 rfl ?_
    · rw [List.take_add_one, List.getElem?_eq_getElem hlt, ← hx]
      simp only [by8, List.map_append, Option.toList, List.map_cons, List.map_nil, List.replicate_succ, List.append_assoc, List.cons_append, List.nil_append]
      rw [List.set_append_right _ _ (by simp; omega)]
      simp [Nat.min_eq_left (Nat.le_of_lt hlt)]
    · intro T1 h1 X1 e1 W1 B1
      have N1 := Fr.snoc X1 N hnb
      refine Go.iinc (Ls' := #[.val (.ref a), .val (.int (n + 1).toInt32), .val (.ref b), .val (.int n.toInt32), .val (.int cs.length.toInt32), .val (.int n.toInt32), .val (.int x)]) (z := (1 : Int32)) (pc' := 35) C X1 d19_32 rfl rfl (by rw [n32_succ]; rfl) rfl ?_
      refine Go.iinc (Ls' := #[.val (.ref a), .val (.int (n + 1).toInt32), .val (.ref b), .val (.int (n + 1).toInt32), .val (.int cs.length.toInt32), .val (.int n.toInt32), .val (.int x)]) (z := (1 : Int32)) (pc' := 38) C X1 d19_35 rfl rfl (by rw [n32_succ]; rfl) rfl ?_
      refine Go.iinc (Ls' := #[.val (.ref a), .val (.int (n + 1).toInt32), .val (.ref b), .val (.int (n + 1).toInt32), .val (.int cs.length.toInt32), .val (.int (n + 1).toInt32), .val (.int x)]) (z := (1 : Int32)) (pc' := 41) C X1 d19_38 rfl rfl (by rw [n32_succ]; rfl) rfl ?_
      refine Go.goto (pc' := 3) C X1 d19_41 (by decide) (by decide) ?_
      refine ih (n + 1) T1 _ cells slots h1 (.val (.int x)) (by omega) (One.val rfl) X1 e1 (AL.other W1 A hne) B1 N1 ?_
      intro T' locs' h' s6' X' e' K' B' N'
      exact K T' locs' h' s6' X' e' (((Keep.refl h [b]).wr W1 (Or.inl (by simp))).trans K' (allS (Or.inl (by simp)) all0)) B' N'
theorem pf_19 : plainFor mN19 = true := plainFor_of_name (by first | (simp [plainName, overriddenIn]; done) | decide +kernel)
def Q_cmpI (Z : State) (a : Addr) (b : Addr) (ka : ClassId) (kb : ClassId) (cs : List Int32) (h0 : Heap) (rv : Option Value) (h : Heap) (L : List Loc) : Prop := rv = some (.int cs.length.toInt32) ∧ Fr Z.heap.size L ∧ Keep h0 h [b] ∧ AL Z h b kb .byte (by8 cs)
theorem rm_cmpI (l : Launch) (Z : State) (a0 : Array Value) (hw : ∀ d ∈ tables_1, d.before a0 Z = true) (a : Addr) (b : Addr) (ka : ClassId) (kb : ClassId) (cs : List Int32) (h0 : Heap) (O0 : Ext Z.heap h0) (A0 : AL Z h0 a ka .char (ch16 cs)) (B0 : AL Z h0 b kb .byte (List.replicate cs.length (.int 0))) (hcs : ∀ x ∈ cs, 0 ≤ x.toInt ∧ x.toInt ≤ 255) (hl : cs.length < 2 ^ 31) (hne : a ≠ b) (hnb : Z.heap.size ≤ b) :
    Met1 l Z mN19 jdk_52_method_21_code 7 (some .int) ({ frames := 0, cells := 0, slots := 0, locals := 0 } : Room) #[(.ref a), (.int (0 : Int32)), (.ref b), (.int (0 : Int32)), (.int cs.length.toInt32)] h0 (Q_cmpI Z a b ka kb cs h0) := by
  refine Met1.of_body (Ls := #[.val (.ref a), .val (.int (0 : Int32)), .val (.ref b), .val (.int (0 : Int32)), .val (.int cs.length.toInt32), .unset, .unset]) pf_19 (fun m => by first | (simp [entryFrame, mkF, argsToLocals, Value.category]; done) | rfl) ?_
  intro p e s m below meth c T0 C X0 e0
  have N0 : Fr Z.heap.size [] := Fr.nil _
  refine Go.iconst (z := (0 : Int32)) (pc' := 1) C X0 d19_0 rfl rfl ?_
  refine Go.istore (Ls' := #[.val (.ref a), .val (.int (0 : Int32)), .val (.ref b), .val (.int (0 : Int32)), .val (.int cs.length.toInt32), .val (.int (0 : Int32)), .unset]) (pc' := 3) C X0 d19_1 rfl rfl ?_
  refine lp_compress C hcs hl hne hnb cs.length 0 T0 [] 0 0 h0 .unset (by omega) One.u X0 e0 A0 (by simpa [by8] using B0) N0 ?_
  intro T' locs' h' s6' X' e' K' B' N'
  refine Go.iload (pc' := 46) C X' d19_44 rfl rfl ?_
  exact Go.retI C X' rfl d19_46 (by rw [e']; exact ⟨rfl, N', K', B'⟩) (by decide) (by decide)
theorem pd_0 : parseMethodDescriptor "([CI[BII)I" = some ⟨[(.array .char), .int, (.array .byte), .int, .int], some .int⟩ := by decide +kernel
theorem pf_18 : plainFor mN18 = true := plainFor_of_name (by first | (simp [plainName, overriddenIn]; done) | decide +kernel)
theorem d18_0 : decode jdk_52_method_16_code 0 = .ok (.iload_n 2, 1) := by decide +kernel
theorem d18_1 : decode jdk_52_method_16_code 1 = .ok (.newarray .byte, 2) := by decide +kernel
theorem d18_3 : decode jdk_52_method_16_code 3 = .ok (.astore_n 3, 1) := by decide +kernel
theorem d18_4 : decode jdk_52_method_16_code 4 = .ok (.aload_n 0, 1) := by decide +kernel
theorem d18_5 : decode jdk_52_method_16_code 5 = .ok (.iload_n 1, 1) := by decide +kernel
theorem d18_6 : decode jdk_52_method_16_code 6 = .ok (.aload_n 3, 1) := by decide +kernel
theorem d18_7 : decode jdk_52_method_16_code 7 = .ok (.iconst 0, 1) := by decide +kernel
theorem d18_8 : decode jdk_52_method_16_code 8 = .ok (.iload_n 2, 1) := by decide +kernel
theorem d18_9 : decode jdk_52_method_16_code 9 = .ok (.invokestatic 115, 3) := by decide +kernel
theorem d18_12 : decode jdk_52_method_16_code 12 = .ok (.istore 4, 2) := by decide +kernel
theorem d18_14 : decode jdk_52_method_16_code 14 = .ok (.iload 4, 2) := by decide +kernel
theorem d18_16 : decode jdk_52_method_16_code 16 = .ok (.iload_n 2, 1) := by decide +kernel
theorem d18_17 : decode jdk_52_method_16_code 17 = .ok (.if_icmp .eq 40, 3) := by decide +kernel
theorem d18_57 : decode jdk_52_method_16_code 57 = .ok (.aload_n 3, 1) := by decide +kernel
theorem d18_58 : decode jdk_52_method_16_code 58 = .ok (.areturn, 1) := by decide +kernel
def Q_cmpO (Z : State) (a : Addr) (ka : ClassId) (cs : List Int32) (h0 : Heap) (rv : Option Value) (h : Heap) (L : List Loc) : Prop := ∃ b : Addr, ∃ kb : ClassId, rv = some (.ref b) ∧ Fr Z.heap.size L ∧ Keep h0 h [] ∧ h0.size ≤ b ∧ AL Z h b kb .byte (by8 cs)
theorem rm_cmpO (l : Launch) (Z : State) (a0 : Array Value) (hw : ∀ d ∈ tables_1, d.before a0 Z = true) (a : Addr) (ka : ClassId) (cs : List Int32) (h0 : Heap) (O0 : Ext Z.heap h0) (A0 : AL Z h0 a ka .char (ch16 cs)) (hcs : ∀ x ∈ cs, 0 ≤ x.toInt ∧ x.toInt ≤ 255) (hl : cs.length < 2 ^ 31) (hN : cs.length ≤ 4) :
    Met1 l Z mN18 jdk_52_method_16_code 6 (some (.array .byte)) ({ frames := 1, cells := 1, slots := 4, locals := 18 } : Room) #[(.ref a), (.int (0 : Int32)), (.int cs.length.toInt32)] h0 (Q_cmpO Z a ka cs h0) := by
  refine Met1.of_body (Ls := #[.val (.ref a), .val (.int (0 : Int32)), .val (.int cs.length.toInt32), .unset, .unset, .unset]) pf_18 (fun m => by first | (simp [entryFrame, mkF, argsToLocals, Value.category]; done) | rfl) ?_
  intro p e s m below meth c T0 C X0 e0
  have N0 : Fr Z.heap.size [] := Fr.nil _
  refine Go.iloadN (pc' := 1) C X0 d18_0 rfl rfl ?_
  refine Go.newP (aty := .byte) (cap := 4) (vs := (List.replicate cs.length (.int 0))) (ad := "[B") (pc' := 3) C X0 (by decide) (tw hw 23 rfl) e0 (n32_neg hl) (by rw [n32_nat hl]; exact hN) (by decide) (by decide) (by decide) (by rw [n32_nat hl]; rfl) d18_1 rfl ?_
  intro T101 h101 b101 k101 X101 e101 g101 E101 A101 Ea101
  have n_b101 : Z.heap.size ≤ b101 := Nat.le_trans O0.1 (Nat.le_of_eq g101.symm)
  have z_b101 : h0.size ≤ b101 := Nat.le_trans (Nat.le_refl _) (Nat.le_of_eq g101.symm)
  have A101 : AL Z h101 b101 k101 .byte (List.replicate cs.length (.int 0)) := A101
  refine Go.astoreN (Ls' := #[.val (.ref a), .val (.int (0 : Int32)), .val (.int cs.length.toInt32), .val (.ref b101), .unset, .unset]) (pc' := 4) C X101 d18_3 rfl rfl rfl ?_
  refine Go.aloadN (pc' := 5) C X101 d18_4 rfl rfl rfl ?_
  refine Go.iloadN (pc' := 6) C X101 d18_5 rfl rfl ?_
  refine Go.aloadN (pc' := 7) C X101 d18_6 rfl rfl rfl ?_
  refine Go.iconst (z := (0 : Int32)) (pc' := 8) C X101 d18_7 rfl rfl ?_
  refine Go.iloadN (pc' := 9) C X101 d18_8 rfl rfl ?_
  have c103 : AL Z h101 a ka .char (ch16 cs) := (AL.ext E101 A0)
  have ne104 : a ≠ b101 := Nat.ne_of_lt (Nat.lt_of_lt_of_le A0.lt (Nat.le_trans (Nat.le_refl _) (Nat.le_of_eq g101.symm)))
  have O105 : Ext Z.heap h101 := (Ext.trans O0 E101)
  refine Go.callS (y := mN19) (pc' := 12) C X101 (tw hw 90 rfl) (tw hw 91 rfl) (by decide) (rm_cmpI l Z a0 hw a b101 ka k101 cs h101 O105 c103 A101 hcs hl ne104 n_b101) (tw hw 92 rfl) (tw hw 88 rfl) e101 (argsL := [(.ref a), (.int (0 : Int32)), (.ref b101), (.int (0 : Int32)), (.int cs.length.toInt32)]) (rest := []) (W := 0) rfl rfl pd_0 rfl (Nat.le_of_eq rfl) rfl (by decide) (by decide) (by decide) (by decide) d18_9 rfl ?_
  intro T102 v102 L102 X102 q102
  obtain ⟨rfl, N102q, K102, P102_0⟩ := q102
  have N102 := Fr.app N0 N102q
  refine Go.istore (Ls' := #[.val (.ref a), .val (.int (0 : Int32)), .val (.int cs.length.toInt32), .val (.ref b101), .val (.int cs.length.toInt32), .unset]) (pc' := 14) C X102 d18_12 rfl rfl ?_
  refine Go.iload (pc' := 16) C X102 d18_14 rfl rfl ?_
  refine Go.iloadN (pc' := 17) C X102 d18_16 rfl rfl ?_
  refine Go.icmpYes (pc' := 57) C X102 d18_17 (teq (x := cs.length.toInt32) (y := cs.length.toInt32) rfl).1 (by decide) (by decide) ?_
  refine Go.aloadN (pc' := 58) C X102 d18_57 rfl rfl rfl ?_
  have K107 : Keep h0 T102.heap [] := (((Keep.refl h0 []).ext E101).trans K102 (allS (Or.inr z_b101) all0))
  exact Go.retA C X102 rfl d18_58 rfl rfl rfl ⟨b101, k101, rfl, N102, K107, z_b101, P102_0⟩ (by decide) (by decide)
theorem pf_20 : plainFor mN17 = true := plainFor_of_name (by first | (simp [plainName, overriddenIn]; done) | decide +kernel)
theorem d20_0 : decode jdk_52_method_15_code 0 = .ok (.iload_n 1, 1) := by decide +kernel
theorem d20_1 : decode jdk_52_method_15_code 1 = .ok (.aload_n 0, 1) := by decide +kernel
theorem d20_2 : decode jdk_52_method_15_code 2 = .ok (.arraylength, 1) := by decide +kernel
theorem d20_3 : decode jdk_52_method_15_code 3 = .ok (.isub, 1) := by decide +kernel
theorem d20_4 : decode jdk_52_method_15_code 4 = .ok (.bipush 31, 2) := by decide +kernel
theorem d20_6 : decode jdk_52_method_15_code 6 = .ok (.iushr, 1) := by decide +kernel
theorem d20_7 : decode jdk_52_method_15_code 7 = .ok (.i2b, 1) := by decide +kernel
theorem d20_8 : decode jdk_52_method_15_code 8 = .ok (.ireturn, 1) := by decide +kernel
def Q_cfl (Z : State) (b : Addr) (kb : ClassId) (cs : List Int32) (h0 : Heap) (rv : Option Value) (h : Heap) (L : List Loc) : Prop := rv = some (.int (0 : Int32)) ∧ L = [] ∧ h = h0
theorem rm_cfl (l : Launch) (Z : State) (a0 : Array Value) (hw : ∀ d ∈ tables_1, d.before a0 Z = true) (b : Addr) (kb : ClassId) (cs : List Int32) (h0 : Heap) (O0 : Ext Z.heap h0) (B0 : AL Z h0 b kb .byte (by8 cs)) :
    Met1 l Z mN17 jdk_52_method_15_code 2 (some .byte) ({ frames := 0, cells := 0, slots := 0, locals := 0 } : Room) #[(.ref b), (.int cs.length.toInt32)] h0 (Q_cfl Z b kb cs h0) := by
  refine Met1.of_body (Ls := #[.val (.ref b), .val (.int cs.length.toInt32)]) pf_20 (fun m => by first | (simp [entryFrame, mkF, argsToLocals, Value.category]; done) | rfl) ?_
  intro p e s m below meth c T0 C X0 e0
  have N0 : Fr Z.heap.size [] := Fr.nil _
  refine Go.iloadN (pc' := 1) C X0 d20_0 rfl rfl ?_
  refine Go.aloadN (pc' := 2) C X0 d20_1 rfl rfl rfl ?_
  refine Go.alen (z := cs.length.toInt32) (pc' := 3) C X0 e0 B0 (by rw [by8_len]) d20_2 rfl ?_
  refine Go.isub (pc' := 4) C X0 d20_3 rfl ?_
  refine Go.bipush (z := (31 : Int32)) (pc' := 6) C X0 d20_4 rfl rfl ?_
  refine Go.iushr (pc' := 7) C X0 d20_6 rfl ?_
  refine Go.i2b (pc' := 8) C X0 d20_7 rfl ?_
  exact Go.retN C X0 rfl d20_8 (by simp) (by rw [e0]; exact ⟨(by rw [Int32.sub_self]; rfl), rfl, rfl⟩) (by decide) (by decide)
theorem pd_1 : parseMethodDescriptor "([CII)[B" = some ⟨[(.array .char), .int, .int], some (.array .byte)⟩ := by decide +kernel
theorem pd_2 : parseMethodDescriptor "([BI)B" = some ⟨[(.array .byte), .int], some .byte⟩ := by decide +kernel
theorem pf_4 : plainFor mN3 = true := plainFor_of_name (by first | (simp [plainName, overriddenIn]; done) | decide +kernel)
theorem d4_0 : decode jdk_42_method_149_code 0 = .ok (.aload_n 0, 1) := by decide +kernel
theorem d4_1 : decode jdk_42_method_149_code 1 = .ok (.invokespecial 1, 3) := by decide +kernel
theorem d4_4 : decode jdk_42_method_149_code 4 = .ok (.iload_n 3, 1) := by decide +kernel
theorem d4_5 : decode jdk_42_method_149_code 5 = .ok (.ifCond .ne 22, 3) := by decide +kernel
theorem d4_27 : decode jdk_42_method_149_code 27 = .ok (.getstatic 38, 3) := by decide +kernel
theorem d4_30 : decode jdk_42_method_149_code 30 = .ok (.ifCond .eq 28, 3) := by decide +kernel
theorem d4_33 : decode jdk_42_method_149_code 33 = .ok (.aload_n 1, 1) := by decide +kernel
theorem d4_34 : decode jdk_42_method_149_code 34 = .ok (.iload_n 2, 1) := by decide +kernel
theorem d4_35 : decode jdk_42_method_149_code 35 = .ok (.iload_n 3, 1) := by decide +kernel
theorem d4_36 : decode jdk_42_method_149_code 36 = .ok (.invokestatic 177, 3) := by decide +kernel
theorem d4_39 : decode jdk_42_method_149_code 39 = .ok (.astore 5, 2) := by decide +kernel
theorem d4_41 : decode jdk_42_method_149_code 41 = .ok (.aload_n 0, 1) := by decide +kernel
theorem d4_42 : decode jdk_42_method_149_code 42 = .ok (.aload 5, 2) := by decide +kernel
theorem d4_44 : decode jdk_42_method_149_code 44 = .ok (.iload_n 3, 1) := by decide +kernel
theorem d4_45 : decode jdk_42_method_149_code 45 = .ok (.invokestatic 47, 3) := by decide +kernel
theorem d4_48 : decode jdk_42_method_149_code 48 = .ok (.putfield 15, 3) := by decide +kernel
theorem d4_51 : decode jdk_42_method_149_code 51 = .ok (.aload_n 0, 1) := by decide +kernel
theorem d4_52 : decode jdk_42_method_149_code 52 = .ok (.aload 5, 2) := by decide +kernel
theorem d4_54 : decode jdk_42_method_149_code 54 = .ok (.putfield 9, 3) := by decide +kernel
theorem d4_57 : decode jdk_42_method_149_code 57 = .ok (.return_, 1) := by decide +kernel
def Q_sI4 (Z : State) (s1 : Addr) (a : Addr) (ka : ClassId) (cs : List Int32) (cP : Int32) (h0 : Heap) (rv : Option Value) (h : Heap) (L : List Loc) : Prop := ∃ v : Addr, ∃ kv : ClassId, rv = none ∧ Fr Z.heap.size L ∧ Keep h0 h [s1] ∧ h0.size ≤ v ∧ Fld Z h s1 "java/lang/String" "value" "[B" (.ref v) ∧ Fld Z h s1 "java/lang/String" "coder" "B" (.int (0 : Int32)) ∧ AL Z h v kv .byte (by8 cs)
theorem rm_sI4 (l : Launch) (Z : State) (a0 : Array Value) (hw : ∀ d ∈ tables_1, d.before a0 Z = true) (s1 : Addr) (a : Addr) (ka : ClassId) (cs : List Int32) (cP : Int32) (h0 : Heap) (O0 : Ext Z.heap h0) (E0 : Exa Z h0 s1 "java/lang/String") (Fv : Fld Z h0 s1 "java/lang/String" "value" "[B" .null) (Fc : Fld Z h0 s1 "java/lang/String" "coder" "B" (.int (0 : Int32))) (A0 : AL Z h0 a ka .char (ch16 cs)) (SC : Sta Z Z.heap "java/lang/String" "COMPACT_STRINGS" "Z" (.int cP)) (hcs : ∀ x ∈ cs, 0 ≤ x.toInt ∧ x.toInt ≤ 255) (hl : cs.length < 2 ^ 31) (hN : cs.length ≤ 4) (hpos : ¬ cs.length.toInt32 = (0 : Int32)) (hP : ¬ cP = (0 : Int32)) (hns : Z.heap.size ≤ s1) :
    Met1 l Z mN3 jdk_42_method_149_code 6 none ({ frames := 2, cells := 1, slots := 4, locals := 35 } : Room) #[(.ref s1), (.ref a), (.int (0 : Int32)), (.int cs.length.toInt32), .null] h0 (Q_sI4 Z s1 a ka cs cP h0) := by
  refine Met1.of_body (Ls := #[.val (.ref s1), .val (.ref a), .val (.int (0 : Int32)), .val (.int cs.length.toInt32), .val .null, .unset]) pf_4 (fun m => by first | (simp [entryFrame, mkF, argsToLocals, Value.category]; done) | rfl) ?_
  intro p e s m below meth c T0 C X0 e0
  have N0 : Fr Z.heap.size [] := Fr.nil _
  refine Go.aloadN (pc' := 1) C X0 d4_0 rfl rfl rfl ?_
  refine Go.initO (pc' := 4) (W := 0) C X0 (tw hw 19 rfl) (tw hw 20 rfl) (tw hw 21 rfl) e0 rfl (by decide) (Nat.le_of_eq rfl) (by decide) d4_1 rfl ?_
  intro T101 X101 e101
  refine Go.iloadN (pc' := 5) C X101 d4_4 rfl rfl ?_
  refine Go.ifYes (pc' := 27) C X101 d4_5 ((if0 _ _).trans (feq (x := cs.length.toInt32) (y := (0 : Int32)) hpos).2) (by decide) (by decide) ?_
  refine Go.getS (pc' := 30) (host := "") C X101 (Or.inl (tw hw 49 rfl)) Via.refl e101 (SC.ext O0) d4_27 rfl ?_
  intro T103 X103 e103
  refine Go.ifNo (pc' := 33) C X103 d4_30 ((if0 _ _).trans (feq (x := cP) (y := (0 : Int32)) hP).1) rfl ?_
  refine Go.aloadN (pc' := 34) C X103 d4_33 rfl rfl rfl ?_
  refine Go.iloadN (pc' := 35) C X103 d4_34 rfl rfl ?_
  refine Go.iloadN (pc' := 36) C X103 d4_35 rfl rfl ?_
  refine Go.callS (y := mN18) (pc' := 39) C X103 (tw hw 86 rfl) (tw hw 87 rfl) (by decide) (rm_cmpO l Z a0 hw a ka cs h0 O0 A0 hcs hl hN) (tw hw 89 rfl) (tw hw 88 rfl) e103 (argsL := [(.ref a), (.int (0 : Int32)), (.int cs.length.toInt32)]) (rest := []) (W := 0) rfl rfl pd_1 rfl (Nat.le_of_eq rfl) rfl (by decide) (by decide) (by decide) (by decide) d4_36 rfl ?_
  intro T105 v105 L105 X105 q105
  obtain ⟨b_105, kb_105, rfl, N105q, K105, B105_0, P105_0⟩ := q105
  have N105 := Fr.app N0 N105q
  have n_b_105 : Z.heap.size ≤ b_105 := Nat.le_trans O0.1 B105_0
  have z_b_105 : h0.size ≤ b_105 := Nat.le_trans (Nat.le_refl _) B105_0
  refine Go.astore (Ls' := #[.val (.ref s1), .val (.ref a), .val (.int (0 : Int32)), .val (.int cs.length.toInt32), .val .null, .val (.ref b_105)]) (pc' := 41) C X105 d4_39 rfl rfl rfl ?_
  refine Go.aloadN (pc' := 42) C X105 d4_41 rfl rfl rfl ?_
  refine Go.aload (pc' := 44) C X105 d4_42 rfl rfl rfl ?_
  refine Go.iloadN (pc' := 45) C X105 d4_44 rfl rfl ?_
  have O107 : Ext Z.heap T105.heap := (Ext.keep O0 K105 all0)
  refine Go.callS (y := mN17) (pc' := 48) C X105 (tw hw 93 rfl) (tw hw 94 rfl) (by decide) (rm_cfl l Z a0 hw b_105 kb_105 cs T105.heap O107 P105_0) (tw hw 95 rfl) (tw hw 88 rfl) rfl (argsL := [(.ref b_105), (.int cs.length.toInt32)]) (rest := [(.ref s1)]) (W := 1) rfl rfl pd_2 rfl (Nat.le_of_eq rfl) rfl (by decide) (by decide) (by decide) (by decide) d4_45 rfl ?_
  intro T106 v106 L106 X106 q106
  obtain ⟨rfl, rfl, e106⟩ := q106
  have N106 := Fr.app N105 (Fr.nil _)
  have c109 : Fld Z T105.heap s1 "java/lang/String" "coder" "B" (.int (0 : Int32)) := (Fld.keep Fc K105 nin0)
  have c110 : Exa Z T105.heap s1 "java/lang/String" := (Exa.keep E0 K105)
  refine Go.putFN (pc' := 51) (ty := .byte) (v' := .int (0 : Int32)) C X106 (tw hw 29 rfl) Via.refl e106 c109 c110 (Or.inr ⟨(tw hw 25 rfl), rfl, rfl⟩) (tw hw 10 rfl) (by decide) rfl (by decide) d4_48 rfl ?_
  intro T108 h108 X108 e108 W108 F108
  have N108 := Fr.snoc X108 N106 hns
  refine Go.aloadN (pc' := 52) C X108 d4_51 rfl rfl rfl ?_
  refine Go.aload (pc' := 54) C X108 d4_52 rfl rfl rfl ?_
  have c112 : Fld Z h108 s1 "java/lang/String" "value" "[B" .null := (Fld.other W108 (Fld.keep Fv K105 nin0) (Or.inr (slot_ne (Or.inr (tw hw 24 rfl)) (Or.inr (tw hw 25 rfl)) (by decide) (t := (.array .byte)) (t' := .byte) (by decide) (by decide))))
  have c113 : Exa Z h108 s1 "java/lang/String" := (Exa.wr W108 c110)
  refine Go.putF (pc' := 57) (host := "") (ty := (.array .byte)) C X108 (Or.inl (tw hw 28 rfl)) Via.refl e108 c112 c113 (Or.inr ⟨(tw hw 24 rfl), rfl, rfl⟩) (tw hw 10 rfl) (by decide) rfl rfl d4_54 rfl ?_
  intro T111 h111 X111 e111 W111 F111
  have N111 := Fr.snoc X111 N108 hns
  have K114 : Keep h0 h111 [s1] := ((((Keep.refl h0 [s1]).trans K105 all0).wr W108 (Or.inl (by simp))).wr W111 (Or.inl (by simp)))
  have c115 : Fld Z h111 s1 "java/lang/String" "coder" "B" (.int (0 : Int32)) := (Fld.other W111 F108 (Or.inr (slot_ne (Or.inr (tw hw 25 rfl)) (Or.inr (tw hw 24 rfl)) (by decide) (t := .byte) (t' := (.array .byte)) (by decide) (by decide))))
  have ne116 : b_105 ≠ s1 := (Nat.ne_of_gt (Nat.lt_of_lt_of_le E0.lt (Nat.le_trans (Nat.le_refl _) B105_0)))
  have c117 : AL Z h111 b_105 kb_105 .byte (by8 cs) := (AL.other W111 (AL.other W108 P105_0 ne116) ne116)
  exact Go.retV C X111 rfl d4_57 (by rw [e111]; exact ⟨b_105, kb_105, rfl, N111, K114, z_b_105, F111, c115, c117⟩) (by decide) (by decide)
theorem pd_3 : parseMethodDescriptor "([CIILjava/lang/Void;)V" = some ⟨[(.array .char), .int, .int, (.object "java/lang/Void")], none⟩ := by decide +kernel
theorem pf_3 : plainFor mN2 = true := plainFor_of_name (by first | (simp [plainName, overriddenIn]; done) | decide +kernel)
theorem d3_0 : decode jdk_42_method_3_code 0 = .ok (.aload_n 0, 1) := by decide +kernel
theorem d3_1 : decode jdk_42_method_3_code 1 = .ok (.aload_n 1, 1) := by decide +kernel
theorem d3_2 : decode jdk_42_method_3_code 2 = .ok (.iconst 0, 1) := by decide +kernel
theorem d3_3 : decode jdk_42_method_3_code 3 = .ok (.aload_n 1, 1) := by decide +kernel
theorem d3_4 : decode jdk_42_method_3_code 4 = .ok (.arraylength, 1) := by decide +kernel
theorem d3_5 : decode jdk_42_method_3_code 5 = .ok (.aconst_null, 1) := by decide +kernel
theorem d3_6 : decode jdk_42_method_3_code 6 = .ok (.invokespecial 27, 3) := by decide +kernel
theorem d3_9 : decode jdk_42_method_3_code 9 = .ok (.return_, 1) := by decide +kernel
def Q_sI1 (Z : State) (s1 : Addr) (a : Addr) (ka : ClassId) (cs : List Int32) (cP : Int32) (h0 : Heap) (rv : Option Value) (h : Heap) (L : List Loc) : Prop := ∃ v : Addr, ∃ kv : ClassId, rv = none ∧ Fr Z.heap.size L ∧ Keep h0 h [s1] ∧ h0.size ≤ v ∧ Fld Z h s1 "java/lang/String" "value" "[B" (.ref v) ∧ Fld Z h s1 "java/lang/String" "coder" "B" (.int (0 : Int32)) ∧ AL Z h v kv .byte (by8 cs)
theorem rm_sI1 (l : Launch) (Z : State) (a0 : Array Value) (hw : ∀ d ∈ tables_1, d.before a0 Z = true) (s1 : Addr) (a : Addr) (ka : ClassId) (cs : List Int32) (cP : Int32) (h0 : Heap) (O0 : Ext Z.heap h0) (E0 : Exa Z h0 s1 "java/lang/String") (Fv : Fld Z h0 s1 "java/lang/String" "value" "[B" .null) (Fc : Fld Z h0 s1 "java/lang/String" "coder" "B" (.int (0 : Int32))) (A0 : AL Z h0 a ka .char (ch16 cs)) (SC : Sta Z Z.heap "java/lang/String" "COMPACT_STRINGS" "Z" (.int cP)) (hcs : ∀ x ∈ cs, 0 ≤ x.toInt ∧ x.toInt ≤ 255) (hl : cs.length < 2 ^ 31) (hN : cs.length ≤ 4) (hpos : ¬ cs.length.toInt32 = (0 : Int32)) (hP : ¬ cP = (0 : Int32)) (hns : Z.heap.size ≤ s1) :
    Met1 l Z mN2 jdk_42_method_3_code 2 none ({ frames := 3, cells := 1, slots := 4, locals := 52 } : Room) #[(.ref s1), (.ref a)] h0 (Q_sI1 Z s1 a ka cs cP h0) := by
  refine Met1.of_body (Ls := #[.val (.ref s1), .val (.ref a)]) pf_3 (fun m => by first | (simp [entryFrame, mkF, argsToLocals, Value.category]; done) | rfl) ?_
  intro p e s m below meth c T0 C X0 e0
  have N0 : Fr Z.heap.size [] := Fr.nil _
  refine Go.aloadN (pc' := 1) C X0 d3_0 rfl rfl rfl ?_
  refine Go.aloadN (pc' := 2) C X0 d3_1 rfl rfl rfl ?_
  refine Go.iconst (z := (0 : Int32)) (pc' := 3) C X0 d3_2 rfl rfl ?_
  refine Go.aloadN (pc' := 4) C X0 d3_3 rfl rfl rfl ?_
  refine Go.alen (z := cs.length.toInt32) (pc' := 5) C X0 e0 A0 (by rw [ch16_len]) d3_4 rfl ?_
  refine Go.aconstNull (pc' := 6) C X0 d3_5 rfl ?_
  refine Go.callI (y := mN3) (a := s1) (pc' := 9) C X0 rfl (tw hw 15 rfl) (tw hw 16 rfl) (by decide) (rm_sI4 l Z a0 hw s1 a ka cs cP h0 O0 E0 Fv Fc A0 SC hcs hl hN hpos hP hns) (tw hw 18 rfl) (tw hw 11 rfl) e0 (argsL := [(.ref a), (.int (0 : Int32)), (.int cs.length.toInt32), .null]) (rest := []) (W := 0) rfl rfl pd_3 rfl (Nat.le_of_eq rfl) rfl (by decide) (by decide) (by decide) (by decide) rfl d3_6 rfl ?_
  intro T101 v101 L101 X101 q101
  obtain ⟨v_101, kv_101, rfl, N101q, K101, B101_0, P101_0, P101_1, P101_2⟩ := q101
  have N101 := Fr.app N0 N101q
  have n_v_101 : Z.heap.size ≤ v_101 := Nat.le_trans O0.1 B101_0
  have z_v_101 : h0.size ≤ v_101 := Nat.le_trans (Nat.le_refl _) B101_0
  have K102 : Keep h0 T101.heap [s1] := ((Keep.refl h0 [s1]).trans K101 (allS (Or.inl (by simp)) all0))
  exact Go.retV C X101 rfl d3_9 ⟨v_101, kv_101, rfl, N101, K102, z_v_101, P101_0, P101_1, P101_2⟩ (by decide) (by decide)
theorem d31_0 : decode jdk_43_method_13_code 0 = .ok (.aload_n 0, 1) := by decide +kernel
theorem d31_1 : decode jdk_43_method_13_code 1 = .ok (.arraylength, 1) := by decide +kernel
theorem d31_2 : decode jdk_43_method_13_code 2 = .ok (.aload_n 1, 1) := by decide +kernel
theorem d31_3 : decode jdk_43_method_13_code 3 = .ok (.arraylength, 1) := by decide +kernel
theorem d31_4 : decode jdk_43_method_13_code 4 = .ok (.if_icmp .ne 30, 3) := by decide +kernel
theorem d31_7 : decode jdk_43_method_13_code 7 = .ok (.iconst 0, 1) := by decide +kernel
theorem d31_8 : decode jdk_43_method_13_code 8 = .ok (.istore_n 2, 1) := by decide +kernel
theorem d31_9 : decode jdk_43_method_13_code 9 = .ok (.iload_n 2, 1) := by decide +kernel
theorem d31_10 : decode jdk_43_method_13_code 10 = .ok (.aload_n 0, 1) := by decide +kernel
theorem d31_11 : decode jdk_43_method_13_code 11 = .ok (.arraylength, 1) := by decide +kernel
theorem d31_12 : decode jdk_43_method_13_code 12 = .ok (.if_icmp .ge 20, 3) := by decide +kernel
theorem d31_15 : decode jdk_43_method_13_code 15 = .ok (.aload_n 0, 1) := by decide +kernel
theorem d31_16 : decode jdk_43_method_13_code 16 = .ok (.iload_n 2, 1) := by decide +kernel
theorem d31_17 : decode jdk_43_method_13_code 17 = .ok (.baload, 1) := by decide +kernel
theorem d31_18 : decode jdk_43_method_13_code 18 = .ok (.aload_n 1, 1) := by decide +kernel
theorem d31_19 : decode jdk_43_method_13_code 19 = .ok (.iload_n 2, 1) := by decide +kernel
theorem d31_20 : decode jdk_43_method_13_code 20 = .ok (.baload, 1) := by decide +kernel
theorem d31_21 : decode jdk_43_method_13_code 21 = .ok (.if_icmp .eq 5, 3) := by decide +kernel
theorem d31_24 : decode jdk_43_method_13_code 24 = .ok (.iconst 0, 1) := by decide +kernel
theorem d31_25 : decode jdk_43_method_13_code 25 = .ok (.ireturn, 1) := by decide +kernel
theorem d31_26 : decode jdk_43_method_13_code 26 = .ok (.iinc 2 1, 3) := by decide +kernel
theorem d31_29 : decode jdk_43_method_13_code 29 = .ok (.goto (-20), 3) := by decide +kernel
theorem d31_32 : decode jdk_43_method_13_code 32 = .ok (.iconst 1, 1) := by decide +kernel
theorem d31_33 : decode jdk_43_method_13_code 33 = .ok (.ireturn, 1) := by decide +kernel
theorem d31_34 : decode jdk_43_method_13_code 34 = .ok (.iconst 0, 1) := by decide +kernel
theorem d31_35 : decode jdk_43_method_13_code 35 = .ok (.ireturn, 1) := by decide +kernel
theorem lp_equals {p : Program} {l : Launch} {e : Env} {R : Room} {s : State} {m : MethodId} {args : Array Value} {below : List Frame} {meth : Method} {c : Code} {Z : State} {Fin' : Outcome → State → Prop} {a b : Addr} {ka kb : ClassId} {xs ys : List Int32} (C : Cx p s m meth c Z "java/lang/StringLatin1" "equals" jdk_43_method_13_code 3 (some .boolean)) (hl : xs.length < 2 ^ 31) (hle : ys.length = xs.length) {T : State} {locs : List Loc} {cells slots : Nat} {h : Heap} (X : Stand p l e R s m args below meth c T locs cells slots) (e0 : T.heap = h) (A : AL Z h a ka .byte (by8 xs)) (B : AL Z h b kb .byte (by8 ys))
    (KT : by8 xs = by8 ys → ∀ i : Int32, Go p e below Fin' T (mkF m 32 #[.val (.ref a), .val (.ref b), .val (.int i)] [])) (KF : by8 xs ≠ by8 ys → ∀ i : Int32, Go p e below Fin' T (mkF m 24 #[.val (.ref a), .val (.ref b), .val (.int i)] [])) :
    ∀ (k n : Nat), n + k = xs.length → by8 (xs.take n) = by8 (ys.take n) → Go p e below Fin' T (mkF m 9 #[.val (.ref a), .val (.ref b), .val (.int n.toInt32)] []) := by
  intro k
  induction k with
  | zero =>
    intro n hn hq
    have hn' : n = xs.length := by omega
    subst hn'
    refine Go.iloadN (pc' := 10) C X d31_9 rfl rfl ?_
    refine Go.aloadN (pc' := 11) C X d31_10 rfl rfl rfl ?_
    refine Go.alen (z := xs.length.toInt32) (pc' := 12) C X e0 A (by rw [by8_len]) d31_11 rfl ?_
    refine Go.icmpYes (pc' := 32) C X d31_12 (flt (x := xs.length.toInt32) (y := xs.length.toInt32) (fun q => absurd ((n32_lt hl hl).mp q) (Nat.lt_irrefl _))).2.1 (by decide) (by decide) ?_
    refine KT ?_ _
    rw [List.take_length, List.take_of_length_le (by omega)] at hq
    exact hq
  | succ k ih =>
    intro n hn hq
    have hlt : n < xs.length := by omega
    have hlt' : n < ys.length := by omega
    have hn31 : n < 2 ^ 31 := by omega
    have g1 : (by8 xs)[n]? = some (.int (xs[n]).toInt8.toInt32) := by simp [by8, hlt]
    have g2 : (by8 ys)[n]? = some (.int (ys[n]).toInt8.toInt32) := by simp [by8, hlt']
    refine Go.iloadN (pc' := 10) C X d31_9 rfl rfl ?_
    refine Go.aloadN (pc' := 11) C X d31_10 rfl rfl rfl ?_
    refine Go.alen (z := xs.length.toInt32) (pc' := 12) C X e0 A (by rw [by8_len]) d31_11 rfl ?_
    refine Go.icmpNo (pc' := 15) C X d31_12 (tlt (x := n.toInt32) (y := xs.length.toInt32) ((n32_lt hn31 hl).mpr hlt)).2.1 rfl ?_
    refine Go.aloadN (pc' := 16) C X d31_15 rfl rfl rfl ?_
    refine Go.iloadN (pc' := 17) C X d31_16 rfl rfl ?_
    refine Go.ldB (i := n) (v := .int (xs[n]).toInt8.toInt32) (pc' := 18) C X e0 A (n32_neg hn31) (n32_nat hn31) g1 d31_17 rfl ?_
    refine Go.aloadN (pc' := 19) C X d31_18 rfl rfl rfl ?_
    refine Go.iloadN (pc' := 20) C X d31_19 rfl rfl ?_
    refine Go.ldB (i := n) (v := .int (ys[n]).toInt8.toInt32) (pc' := 21) C X e0 B (n32_neg hn31) (n32_nat hn31) g2 d31_20 rfl ?_
    by_cases hc : (xs[n]).toInt8.toInt32 = (ys[n]).toInt8.toInt32
    · refine Go.icmpYes (pc' := 26) C X d31_21 (teq hc).1 (by decide) (by decide) ?_
      refine Go.iinc (Ls' := #[.val (.ref a), .val (.ref b), .val (.int (n + 1).toInt32)]) (z := (1 : Int32)) (pc' := 29) C X d31_26 rfl rfl (by rw [n32_succ]; rfl) rfl ?_
      refine Go.goto (pc' := 9) C X d31_29 (by decide) (by decide) ?_
      refine ih (n + 1) (by omega) ?_
      have e1 : xs.take (n + 1) = xs.take n ++ [xs[n]] := by rw [List.take_add_one, List.getElem?_eq_getElem hlt]; rfl
      have e2 : ys.take (n + 1) = ys.take n ++ [ys[n]] := by rw [List.take_add_one, List.getElem?_eq_getElem hlt']; rfl
      rw [e1, e2]
      simp only [by8, List.map_append, List.map_cons, List.map_nil] at hq ⊢
      rw [hq, hc]
    · refine Go.icmpNo (pc' := 24) C X d31_21 (feq hc).1 rfl ?_
      refine KF (fun q => hc ?_) _
      rw [q, g2] at g1
      exact (Value.int.inj (Option.some.inj g1)).symm
theorem pf_31 : plainFor mN14 = true := plainFor_of_name (by first | (simp [plainName, overriddenIn]; done) | decide +kernel)
def Q_eqB (Z : State) (a : Addr) (b : Addr) (ka : ClassId) (kb : ClassId) (xs : List Int32) (ys : List Int32) (h0 : Heap) (rv : Option Value) (h : Heap) (L : List Loc) : Prop := rv = some (.int (if by8 xs = by8 ys then (1 : Int32) else 0)) ∧ L = [] ∧ h = h0
theorem rm_eqB (l : Launch) (Z : State) (a0 : Array Value) (hw : ∀ d ∈ tables_1, d.before a0 Z = true) (a : Addr) (b : Addr) (ka : ClassId) (kb : ClassId) (xs : List Int32) (ys : List Int32) (h0 : Heap) (O0 : Ext Z.heap h0) (A0 : AL Z h0 a ka .byte (by8 xs)) (B0 : AL Z h0 b kb .byte (by8 ys)) (hl : xs.length < 2 ^ 31) (hl2 : ys.length < 2 ^ 31) :
    Met1 l Z mN14 jdk_43_method_13_code 3 (some .boolean) ({ frames := 0, cells := 0, slots := 0, locals := 0 } : Room) #[(.ref a), (.ref b)] h0 (Q_eqB Z a b ka kb xs ys h0) := by
  refine Met1.of_body (Ls := #[.val (.ref a), .val (.ref b), .unset]) pf_31 (fun m => by first | (simp [entryFrame, mkF, argsToLocals, Value.category]; done) | rfl) ?_
  intro p e s m below meth c T0 C X0 e0
  have N0 : Fr Z.heap.size [] := Fr.nil _
  refine Go.aloadN (pc' := 1) C X0 d31_0 rfl rfl rfl ?_
  refine Go.alen (z := xs.length.toInt32) (pc' := 2) C X0 e0 A0 (by rw [by8_len]) d31_1 rfl ?_
  refine Go.aloadN (pc' := 3) C X0 d31_2 rfl rfl rfl ?_
  refine Go.alen (z := ys.length.toInt32) (pc' := 4) C X0 e0 B0 (by rw [by8_len]) d31_3 rfl ?_
  by_cases hc : xs.length = ys.length
  · refine Go.icmpNo (pc' := 7) C X0 d31_4 (teq ((n32_eq hl hl2).mpr hc)).2 rfl ?_
    refine Go.iconst (z := (0 : Int32)) (pc' := 8) C X0 d31_7 rfl rfl ?_
    refine Go.istoreN (Ls' := #[.val (.ref a), .val (.ref b), .val (.int (0 : Int32))]) (pc' := 9) C X0 d31_8 rfl rfl ?_
    refine lp_equals C hl hc.symm X0 e0 A0 B0 ?_ ?_ xs.length 0 (by omega) (by simp [by8])
    · intro hq i
      refine Go.iconst (z := (1 : Int32)) (pc' := 33) C X0 d31_32 rfl rfl ?_
      exact Go.retN C X0 rfl d31_33 (by simp) (by rw [e0]; exact ⟨by rw [if_pos hq]; rfl, rfl, rfl⟩) (by decide) (by decide)
    · intro hq i
      refine Go.iconst (z := (0 : Int32)) (pc' := 25) C X0 d31_24 rfl rfl ?_
      exact Go.retN C X0 rfl d31_25 (by simp) (by rw [e0]; exact ⟨by rw [if_neg hq]; rfl, rfl, rfl⟩) (by decide) (by decide)
  · refine Go.icmpYes (pc' := 34) C X0 d31_4 (feq (fun q => hc ((n32_eq hl hl2).mp q))).2 (by decide) (by decide) ?_
    refine Go.iconst (z := (0 : Int32)) (pc' := 35) C X0 d31_34 rfl rfl ?_
    have hq : by8 xs ≠ by8 ys := fun q => hc (by have := congrArg List.length q; simpa [by8_len] using this)
    exact Go.retN C X0 rfl d31_35 (by simp) (by rw [e0]; exact ⟨by rw [if_neg hq]; rfl, rfl, rfl⟩) (by decide) (by decide)
theorem pf_30 : plainFor mN6 = true := plainFor_of_name (by first | (simp [plainName, overriddenIn]; done) | decide +kernel)
theorem d30_0 : decode jdk_42_method_66_code 0 = .ok (.aload_n 0, 1) := by decide +kernel
theorem d30_1 : decode jdk_42_method_66_code 1 = .ok (.aload_n 1, 1) := by decide +kernel
theorem d30_2 : decode jdk_42_method_66_code 2 = .ok (.if_acmp .ne 5, 3) := by decide +kernel
theorem d30_5 : decode jdk_42_method_66_code 5 = .ok (.iconst 1, 1) := by decide +kernel
theorem d30_6 : decode jdk_42_method_66_code 6 = .ok (.ireturn, 1) := by decide +kernel
def Q_eqSame (Z : State) (s1 : Addr) (h0 : Heap) (rv : Option Value) (h : Heap) (L : List Loc) : Prop := rv = some (.int (1 : Int32)) ∧ L = [] ∧ h = h0
theorem rm_eqSame (l : Launch) (Z : State) (a0 : Array Value) (hw : ∀ d ∈ tables_1, d.before a0 Z = true) (s1 : Addr) (h0 : Heap) (O0 : Ext Z.heap h0) :
    Met1 l Z mN6 jdk_42_method_66_code 3 (some .boolean) ({ frames := 0, cells := 0, slots := 0, locals := 0 } : Room) #[(.ref s1), (.ref s1)] h0 (Q_eqSame Z s1 h0) := by
  refine Met1.of_body (Ls := #[.val (.ref s1), .val (.ref s1), .unset]) pf_30 (fun m => by first | (simp [entryFrame, mkF, argsToLocals, Value.category]; done) | rfl) ?_
  intro p e s m below meth c T0 C X0 e0
  have N0 : Fr Z.heap.size [] := Fr.nil _
  refine Go.aloadN (pc' := 1) C X0 d30_0 rfl rfl rfl ?_
  refine Go.aloadN (pc' := 2) C X0 d30_1 rfl rfl rfl ?_
  refine Go.acmpNo (pc' := 5) C X0 d30_2 rfl rfl (XT.aa_ne_f rfl) rfl ?_
  refine Go.iconst (z := (1 : Int32)) (pc' := 6) C X0 d30_5 rfl rfl ?_
  exact Go.retN C X0 rfl d30_6 (by simp) (by rw [e0]; exact ⟨rfl, rfl, rfl⟩) (by decide) (by decide)
theorem d30_7 : decode jdk_42_method_66_code 7 = .ok (.aload_n 1, 1) := by decide +kernel
theorem d30_8 : decode jdk_42_method_66_code 8 = .ok (.instanceof 10, 3) := by decide +kernel
theorem d30_11 : decode jdk_42_method_66_code 11 = .ok (.ifCond .eq 43, 3) := by decide +kernel
theorem d30_54 : decode jdk_42_method_66_code 54 = .ok (.iconst 0, 1) := by decide +kernel
theorem d30_55 : decode jdk_42_method_66_code 55 = .ok (.ireturn, 1) := by decide +kernel
def Q_eqNull (Z : State) (s1 : Addr) (h0 : Heap) (rv : Option Value) (h : Heap) (L : List Loc) : Prop := rv = some (.int (0 : Int32)) ∧ L = [] ∧ h = h0
theorem rm_eqNull (l : Launch) (Z : State) (a0 : Array Value) (hw : ∀ d ∈ tables_1, d.before a0 Z = true) (s1 : Addr) (h0 : Heap) (O0 : Ext Z.heap h0) :
    Met1 l Z mN6 jdk_42_method_66_code 3 (some .boolean) ({ frames := 0, cells := 0, slots := 0, locals := 0 } : Room) #[(.ref s1), .null] h0 (Q_eqNull Z s1 h0) := by
  refine Met1.of_body (Ls := #[.val (.ref s1), .val .null, .unset]) pf_30 (fun m => by first | (simp [entryFrame, mkF, argsToLocals, Value.category]; done) | rfl) ?_
  intro p e s m below meth c T0 C X0 e0
  have N0 : Fr Z.heap.size [] := Fr.nil _
  refine Go.aloadN (pc' := 1) C X0 d30_0 rfl rfl rfl ?_
  refine Go.aloadN (pc' := 2) C X0 d30_1 rfl rfl rfl ?_
  refine Go.acmpYes (pc' := 7) C X0 d30_2 rfl rfl (XT.aa_ne_t nofun) (by decide) (by decide) ?_
  refine Go.aloadN (pc' := 8) C X0 d30_7 rfl rfl rfl ?_
  refine Go.instNull (pc' := 11) C X0 d30_8 rfl ?_
  refine Go.ifYes (pc' := 54) C X0 d30_11 ((if0 _ _).trans (teq (x := (0 : Int32)) (y := (0 : Int32)) (by decide)).1) (by decide) (by decide) ?_
  refine Go.iconst (z := (0 : Int32)) (pc' := 55) C X0 d30_54 rfl rfl ?_
  exact Go.retN C X0 rfl d30_55 (by simp) (by rw [e0]; exact ⟨rfl, rfl, rfl⟩) (by decide) (by decide)
theorem own_if1 {P : Prop} [Decidable P] (h : ¬ (if P then (1 : Int32) else 0) = (0 : Int32)) : some (Value.int (nar .boolean (1 : Int32))) = some (Value.int (if P then (1 : Int32) else 0)) := by
  by_cases q : P
  · rw [if_pos q]; rfl
  · rw [if_neg q] at h; exact absurd rfl h
theorem own_if0 {P : Prop} [Decidable P] (h : (if P then (1 : Int32) else 0) = (0 : Int32)) : some (Value.int (nar .boolean (0 : Int32))) = some (Value.int (if P then (1 : Int32) else 0)) := by
  rw [h]; rfl
theorem pd_4 : parseMethodDescriptor "([B[B)Z" = some ⟨[(.array .byte), (.array .byte)], some .boolean⟩ := by decide +kernel
theorem d30_14 : decode jdk_42_method_66_code 14 = .ok (.aload_n 1, 1) := by decide +kernel
theorem d30_15 : decode jdk_42_method_66_code 15 = .ok (.checkcast 10, 3) := by decide +kernel
theorem d30_18 : decode jdk_42_method_66_code 18 = .ok (.astore_n 2, 1) := by decide +kernel
theorem d30_19 : decode jdk_42_method_66_code 19 = .ok (.getstatic 38, 3) := by decide +kernel
theorem d30_22 : decode jdk_42_method_66_code 22 = .ok (.ifCond .eq 14, 3) := by decide +kernel
theorem d30_25 : decode jdk_42_method_66_code 25 = .ok (.aload_n 0, 1) := by decide +kernel
theorem d30_26 : decode jdk_42_method_66_code 26 = .ok (.getfield 15, 3) := by decide +kernel
theorem d30_29 : decode jdk_42_method_66_code 29 = .ok (.aload_n 2, 1) := by decide +kernel
theorem d30_30 : decode jdk_42_method_66_code 30 = .ok (.getfield 15, 3) := by decide +kernel
theorem d30_33 : decode jdk_42_method_66_code 33 = .ok (.if_icmp .ne 21, 3) := by decide +kernel
theorem d30_36 : decode jdk_42_method_66_code 36 = .ok (.aload_n 0, 1) := by decide +kernel
theorem d30_37 : decode jdk_42_method_66_code 37 = .ok (.getfield 9, 3) := by decide +kernel
theorem d30_40 : decode jdk_42_method_66_code 40 = .ok (.aload_n 2, 1) := by decide +kernel
theorem d30_41 : decode jdk_42_method_66_code 41 = .ok (.getfield 9, 3) := by decide +kernel
theorem d30_44 : decode jdk_42_method_66_code 44 = .ok (.invokestatic 541, 3) := by decide +kernel
theorem d30_47 : decode jdk_42_method_66_code 47 = .ok (.ifCond .eq 7, 3) := by decide +kernel
theorem d30_50 : decode jdk_42_method_66_code 50 = .ok (.iconst 1, 1) := by decide +kernel
theorem d30_51 : decode jdk_42_method_66_code 51 = .ok (.goto 4, 3) := by decide +kernel
def Q_eqS (Z : State) (s1 : Addr) (s2 : Addr) (v1 : Addr) (v2 : Addr) (k1 : ClassId) (k2 : ClassId) (xs : List Int32) (ys : List Int32) (cP : Int32) (h0 : Heap) (rv : Option Value) (h : Heap) (L : List Loc) : Prop := rv = some (.int (if by8 xs = by8 ys then (1 : Int32) else 0)) ∧ L = [] ∧ h = h0
theorem rm_eqS (l : Launch) (Z : State) (a0 : Array Value) (hw : ∀ d ∈ tables_1, d.before a0 Z = true) (s1 : Addr) (s2 : Addr) (v1 : Addr) (v2 : Addr) (k1 : ClassId) (k2 : ClassId) (xs : List Int32) (ys : List Int32) (cP : Int32) (h0 : Heap) (O0 : Ext Z.heap h0) (SC : Sta Z Z.heap "java/lang/String" "COMPACT_STRINGS" "Z" (.int cP)) (E1 : Exa Z h0 s1 "java/lang/String") (V1 : Fld Z h0 s1 "java/lang/String" "value" "[B" (.ref v1)) (C1 : Fld Z h0 s1 "java/lang/String" "coder" "B" (.int (0 : Int32))) (B1 : AL Z h0 v1 k1 .byte (by8 xs)) (E2 : Exa Z h0 s2 "java/lang/String") (V2 : Fld Z h0 s2 "java/lang/String" "value" "[B" (.ref v2)) (C2 : Fld Z h0 s2 "java/lang/String" "coder" "B" (.int (0 : Int32))) (B2 : AL Z h0 v2 k2 .byte (by8 ys)) (hne : s1 ≠ s2) (hP : ¬ cP = (0 : Int32)) (hl : xs.length < 2 ^ 31) (hl2 : ys.length < 2 ^ 31) :
    Met1 l Z mN6 jdk_42_method_66_code 3 (some .boolean) ({ frames := 1, cells := 0, slots := 0, locals := 14 } : Room) #[(.ref s1), (.ref s2)] h0 (Q_eqS Z s1 s2 v1 v2 k1 k2 xs ys cP h0) := by
  refine Met1.of_body (Ls := #[.val (.ref s1), .val (.ref s2), .unset]) pf_30 (fun m => by first | (simp [entryFrame, mkF, argsToLocals, Value.category]; done) | rfl) ?_
  intro p e s m below meth c T0 C X0 e0
  have N0 : Fr Z.heap.size [] := Fr.nil _
  refine Go.aloadN (pc' := 1) C X0 d30_0 rfl rfl rfl ?_
  refine Go.aloadN (pc' := 2) C X0 d30_1 rfl rfl rfl ?_
  refine Go.acmpYes (pc' := 7) C X0 d30_2 rfl rfl (XT.aa_ne_t (fun q => hne (Value.ref.inj q))) (by decide) (by decide) ?_
  refine Go.aloadN (pc' := 8) C X0 d30_7 rfl rfl rfl ?_
  refine Go.instY (pc' := 11) C X0 (tw hw 142 rfl) e0 (Ins.self E2) d30_8 rfl ?_
  intro T101 X101 e101
  refine Go.ifNo (pc' := 14) C X101 d30_11 ((if0 _ _).trans (feq (x := (1 : Int32)) (y := (0 : Int32)) (by decide)).1) rfl ?_
  refine Go.aloadN (pc' := 15) C X101 d30_14 rfl rfl rfl ?_
  refine Go.castY (pc' := 18) C X101 (tw hw 142 rfl) e101 (Ins.self E2) d30_15 rfl ?_
  intro T103 X103 e103
  refine Go.astoreN (Ls' := #[.val (.ref s1), .val (.ref s2), .val (.ref s2)]) (pc' := 19) C X103 d30_18 rfl rfl rfl ?_
  refine Go.getS (pc' := 22) (host := "") C X103 (Or.inl (tw hw 49 rfl)) Via.refl e103 (SC.ext O0) d30_19 rfl ?_
  intro T104 X104 e104
  refine Go.ifNo (pc' := 25) C X104 d30_22 ((if0 _ _).trans (feq (x := cP) (y := (0 : Int32)) hP).1) rfl ?_
  refine Go.aloadN (pc' := 26) C X104 d30_25 rfl rfl rfl ?_
  refine Go.getF (pc' := 29) (host := "") C X104 (Or.inl (tw hw 29 rfl)) Via.refl e104 C1 d30_26 rfl ?_
  intro T106 X106 e106
  refine Go.aloadN (pc' := 30) C X106 d30_29 rfl rfl rfl ?_
  refine Go.getF (pc' := 33) (host := "") C X106 (Or.inl (tw hw 29 rfl)) Via.refl e106 C2 d30_30 rfl ?_
  intro T107 X107 e107
  refine Go.icmpNo (pc' := 36) C X107 d30_33 (teq (x := (0 : Int32)) (y := (0 : Int32)) (by decide)).2 rfl ?_
  refine Go.aloadN (pc' := 37) C X107 d30_36 rfl rfl rfl ?_
  refine Go.getF (pc' := 40) (host := "") C X107 (Or.inl (tw hw 28 rfl)) Via.refl e107 V1 d30_37 rfl ?_
  intro T109 X109 e109
  refine Go.aloadN (pc' := 41) C X109 d30_40 rfl rfl rfl ?_
  refine Go.getF (pc' := 44) (host := "") C X109 (Or.inl (tw hw 28 rfl)) Via.refl e109 V2 d30_41 rfl ?_
  intro T110 X110 e110
  refine Go.callS (y := mN14) (pc' := 47) C X110 (tw hw 143 rfl) (tw hw 144 rfl) (by decide) (rm_eqB l Z a0 hw v1 v2 k1 k2 xs ys h0 O0 B1 B2 hl hl2) (tw hw 145 rfl) (tw hw 62 rfl) e110 (argsL := [(.ref v1), (.ref v2)]) (rest := []) (W := 0) rfl rfl pd_4 rfl (Nat.le_of_eq rfl) rfl (by decide) (by decide) (by decide) (by decide) d30_44 rfl ?_
  intro T111 v111 L111 X111 q111
  obtain ⟨rfl, rfl, e111⟩ := q111
  have N111 := Fr.app N0 (Fr.nil _)
  by_cases hc47_112 : (if by8 xs = by8 ys then (1 : Int32) else 0) = (0 : Int32)
  · refine Go.ifYes (pc' := 54) C X111 d30_47 ((if0 _ _).trans (teq (x := (if by8 xs = by8 ys then (1 : Int32) else 0)) (y := (0 : Int32)) hc47_112).1) (by decide) (by decide) ?_
    refine Go.iconst (z := (0 : Int32)) (pc' := 55) C X111 d30_54 rfl rfl ?_
    exact Go.retN C X111 rfl d30_55 (by simp) (by rw [e111]; exact ⟨(own_if0 hc47_112), (by simp), rfl⟩) (by decide) (by decide)
  · refine Go.ifNo (pc' := 50) C X111 d30_47 ((if0 _ _).trans (feq (x := (if by8 xs = by8 ys then (1 : Int32) else 0)) (y := (0 : Int32)) hc47_112).1) rfl ?_
    refine Go.iconst (z := (1 : Int32)) (pc' := 51) C X111 d30_50 rfl rfl ?_
    refine Go.goto (pc' := 55) C X111 d30_51 (by decide) (by decide) ?_
    exact Go.retN C X111 rfl d30_55 (by simp) (by rw [e111]; exact ⟨(own_if1 hc47_112), (by simp), rfl⟩) (by decide) (by decide)
theorem EWc {a0 : Array Value} {Z : State} (hw : ∀ d ∈ tables_1, d.before a0 Z = true) : EW Z a0 consts_1 := by
  intro p hp
  simp only [consts_1, List.mem_cons, List.not_mem_nil, or_false] at hp
  rcases hp with rfl | rfl
  · exact ⟨"", (tw hw 22 rfl), by decide⟩
  · exact ⟨"", (tw hw 117 rfl), by decide⟩
theorem wS {a0 : Array Value} {Z : State} (hw : ∀ d ∈ tables_1, d.before a0 Z = true) : ∀ a ∈ Bundle.stringAtoms, a.before a0 Z = true := by
  intro a ha
  simp only [Bundle.stringAtoms, List.mem_cons, List.not_mem_nil, or_false] at ha
  rcases ha with rfl | rfl | rfl | rfl | rfl | rfl | rfl
  · exact (tw hw 11 rfl)
  · exact (tw hw 10 rfl)
  · exact (tw hw 23 rfl)
  · exact (tw hw 24 rfl)
  · exact (tw hw 25 rfl)
  · exact (tw hw 26 rfl)
  · exact (tw hw 27 rfl)
theorem d4_8 : decode jdk_42_method_149_code 8 = .ok (.aload_n 0, 1) := by decide +kernel
theorem d4_9 : decode jdk_42_method_149_code 9 = .ok (.ldc 7, 2) := by decide +kernel
theorem d4_11 : decode jdk_42_method_149_code 11 = .ok (.getfield 9, 3) := by decide +kernel
theorem d4_14 : decode jdk_42_method_149_code 14 = .ok (.putfield 9, 3) := by decide +kernel
theorem d4_17 : decode jdk_42_method_149_code 17 = .ok (.aload_n 0, 1) := by decide +kernel
theorem d4_18 : decode jdk_42_method_149_code 18 = .ok (.ldc 7, 2) := by decide +kernel
theorem d4_20 : decode jdk_42_method_149_code 20 = .ok (.getfield 15, 3) := by decide +kernel
theorem d4_23 : decode jdk_42_method_149_code 23 = .ok (.putfield 15, 3) := by decide +kernel
theorem d4_26 : decode jdk_42_method_149_code 26 = .ok (.return_, 1) := by decide +kernel
def Q_sI4z (Z : State) (s1 : Addr) (a : Addr) (h0 : Heap) (rv : Option Value) (h : Heap) (L : List Loc) : Prop := ∃ v : Addr, ∃ kv : ClassId, rv = none ∧ Fr Z.heap.size L ∧ Keep h0 h [s1] ∧ Fld Z h s1 "java/lang/String" "value" "[B" (.ref v) ∧ Fld Z h s1 "java/lang/String" "coder" "B" (.int (0 : Int32)) ∧ AL Z h v kv .byte (by8 [])
theorem rm_sI4z (l : Launch) (Z : State) (a0 : Array Value) (hw : ∀ d ∈ tables_1, d.before a0 Z = true) (s1 : Addr) (a : Addr) (h0 : Heap) (O0 : Ext Z.heap h0) (E0 : Exa Z h0 s1 "java/lang/String") (Fv : Fld Z h0 s1 "java/lang/String" "value" "[B" .null) (Fc : Fld Z h0 s1 "java/lang/String" "coder" "B" (.int (0 : Int32))) (hns : Z.heap.size ≤ s1) :
    Met1H consts_1 [s1] l Z mN3 jdk_42_method_149_code 6 none ({ frames := 1, cells := 4, slots := 8, locals := 12 } : Room) #[(.ref s1), (.ref a), (.int (0 : Int32)), (.int (0 : Int32)), .null] h0 (Q_sI4z Z s1 a h0) := by
  refine Met1H.of_body (Ls := #[.val (.ref s1), .val (.ref a), .val (.int (0 : Int32)), .val (.int (0 : Int32)), .val .null, .unset]) pf_4 (fun m => by first | (simp [entryFrame, mkF, argsToLocals, Value.category]; done) | rfl) ?_
  intro p e s m below meth c T0 C X0 e0 hH0 hsf0
  have Hr0 := CHr.refl hH0
  have N0 : Fr Z.heap.size [] := Fr.nil _
  have Si0 : Sin s s h0 := Sin.start s h0
  refine Go.aloadN (pc' := 1) C X0 d4_0 rfl rfl rfl ?_
  refine Go.initO (pc' := 4) (W := 0) C X0 (tw hw 19 rfl) (tw hw 20 rfl) (tw hw 21 rfl) e0 rfl (by decide) (Nat.le_of_eq rfl) (by decide) d4_1 rfl ?_
  intro T101 X101 e101
  refine Go.iloadN (pc' := 5) C X101 d4_4 rfl rfl ?_
  refine Go.ifNo (pc' := 8) C X101 d4_5 ((if0 _ _).trans (teq (x := (0 : Int32)) (y := (0 : Int32)) (by decide)).2) rfl ?_
  refine Go.aloadN (pc' := 9) C X101 d4_8 rfl rfl rfl ?_
  refine Go.ldcH (pc' := 11) (n := 0) (vs := []) (z := (0 : Int32)) C X101 Si0 (EWc hw) Hr0.1 (tw hw 22 rfl) (wS hw) e101 (by decide) (by decide) (by decide) (by decide) (by decide) (by decide) (by decide) (by decide) d4_9 rfl ?_
  intro T103 h103 b103 sC103 v103 k103 C103 X103 e103 Si103 E103 hR103 A103 F103c F103v B103 hne103
  have Hr104 := CHr.trans Hr0 hR103
  have hx103_s1 := hne103 s1 (CHr.safe Hr104 E0.lt (hsf0 s1 (by simp)))
  refine Go.getF (pc' := 14) (host := "") C103 X103 (Or.inl (tw hw 28 rfl)) Via.refl e103 F103v d4_11 rfl ?_
  intro T105 X105 e105
  have c107 : Fld Z h103 s1 "java/lang/String" "value" "[B" .null := (Fld.ext E103 Fv)
  have c108 : Exa Z h103 s1 "java/lang/String" := (Exa.ext E103 E0)
  refine Go.putF (pc' := 17) (host := "") (ty := (.array .byte)) C103 X105 (Or.inl (tw hw 28 rfl)) Via.refl e105 c107 c108 (Or.inr ⟨(tw hw 24 rfl), rfl, rfl⟩) (tw hw 10 rfl) (by decide) rfl rfl d4_14 rfl ?_
  intro T106 h106 X106 e106 W106 F106
  have Hr109 := CHr.trans Hr104 (CHr.wr W106 (CHr.safe Hr104 E0.lt (hsf0 s1 (by simp))) Hr104.1)
  have N106 := Fr.snoc X106 N0 hns
  refine Go.aloadN (pc' := 18) C103 X106 d4_17 rfl rfl rfl ?_
  have O111 : Ext Z.heap h106 := (Ext.wr (Ext.trans O0 E103) W106 hns)
  have Si112 : Sin s sC103 h106 := Sin.mono Si103 (Nat.le_trans (Nat.le_refl _) (Nat.le_of_eq W106.size.symm))
  refine Go.ldcH (pc' := 20) (n := 0) (vs := []) (z := (0 : Int32)) C103 X106 Si112 (EWc hw) Hr109.1 (tw hw 22 rfl) (wS hw) e106 (by decide) (by decide) (by decide) (by decide) (by decide) (by decide) (by decide) (by decide) d4_18 rfl ?_
  intro T110 h110 b110 sC110 v110 k110 C110 X110 e110 Si110 E110 hR110 A110 F110c F110v B110 hne110
  have Hr113 := CHr.trans Hr109 hR110
  have hx110_s1 := hne110 s1 (CHr.safe Hr113 E0.lt (hsf0 s1 (by simp)))
  refine Go.getF (pc' := 23) (host := "") C110 X110 (Or.inl (tw hw 29 rfl)) Via.refl e110 F110c d4_20 rfl ?_
  intro T114 X114 e114
  have c116 : Fld Z h110 s1 "java/lang/String" "coder" "B" (.int (0 : Int32)) := (Fld.ext E110 (Fld.other W106 (Fld.ext E103 Fc) (Or.inr (slot_ne (Or.inr (tw hw 25 rfl)) (Or.inr (tw hw 24 rfl)) (by decide) (t := .byte) (t' := (.array .byte)) (by decide) (by decide)))))
  have c117 : Exa Z h110 s1 "java/lang/String" := (Exa.ext E110 (Exa.wr W106 c108))
  refine Go.putFN (pc' := 26) (ty := .byte) (v' := .int (0 : Int32)) C110 X114 (tw hw 29 rfl) Via.refl e114 c116 c117 (Or.inr ⟨(tw hw 25 rfl), rfl, rfl⟩) (tw hw 10 rfl) (by decide) rfl (by decide) d4_23 rfl ?_
  intro T115 h115 X115 e115 W115 F115
  have Hr118 := CHr.trans Hr113 (CHr.wr W115 (CHr.safe Hr113 E0.lt (hsf0 s1 (by simp))) Hr113.1)
  have N115 := Fr.snoc X115 N106 hns
  have K119 : Keep h0 h115 [s1] := (((((Keep.refl h0 [s1]).ext E103).wr W106 (Or.inl (by simp))).ext E110).wr W115 (Or.inl (by simp)))
  have c120 : Fld Z h115 s1 "java/lang/String" "value" "[B" (.ref v103) := (Fld.other W115 (Fld.ext E110 F106) (Or.inr (slot_ne (Or.inr (tw hw 24 rfl)) (Or.inr (tw hw 25 rfl)) (by decide) (t := (.array .byte)) (t' := .byte) (by decide) (by decide))))
  have c121 : AL Z h115 v103 k103 .byte [] := (AL.other W115 (AL.ext E110 (AL.other W106 B103 (Ne.symm hx103_s1.2))) (Ne.symm hx103_s1.2))
  have Si122 : Sin s sC110 h115 := Sin.mono Si110 (Nat.le_trans (Nat.le_refl _) (Nat.le_of_eq W115.size.symm))
  exact Go.retVH C110 X115 (by rw [e115]; exact Si122) (EWc hw) (by rw [e115]; exact Hr118) rfl d4_26 (by rw [e115]; exact ⟨v103, k103, rfl, N115, K119, c120, F115, c121⟩) (by decide) (by decide)
def Q_sI1z (Z : State) (s1 : Addr) (a : Addr) (ka : ClassId) (h0 : Heap) (rv : Option Value) (h : Heap) (L : List Loc) : Prop := ∃ v : Addr, ∃ kv : ClassId, rv = none ∧ Fr Z.heap.size L ∧ Keep h0 h [s1] ∧ Fld Z h s1 "java/lang/String" "value" "[B" (.ref v) ∧ Fld Z h s1 "java/lang/String" "coder" "B" (.int (0 : Int32)) ∧ AL Z h v kv .byte (by8 [])
theorem rm_sI1z (l : Launch) (Z : State) (a0 : Array Value) (hw : ∀ d ∈ tables_1, d.before a0 Z = true) (s1 : Addr) (a : Addr) (ka : ClassId) (h0 : Heap) (O0 : Ext Z.heap h0) (E0 : Exa Z h0 s1 "java/lang/String") (Fv : Fld Z h0 s1 "java/lang/String" "value" "[B" .null) (Fc : Fld Z h0 s1 "java/lang/String" "coder" "B" (.int (0 : Int32))) (A0 : AL Z h0 a ka .char []) (hns : Z.heap.size ≤ s1) :
    Met1H consts_1 [s1] l Z mN2 jdk_42_method_3_code 2 none ({ frames := 2, cells := 4, slots := 8, locals := 29 } : Room) #[(.ref s1), (.ref a)] h0 (Q_sI1z Z s1 a ka h0) := by
  refine Met1H.of_body (Ls := #[.val (.ref s1), .val (.ref a)]) pf_3 (fun m => by first | (simp [entryFrame, mkF, argsToLocals, Value.category]; done) | rfl) ?_
  intro p e s m below meth c T0 C X0 e0 hH0 hsf0
  have Hr0 := CHr.refl hH0
  have N0 : Fr Z.heap.size [] := Fr.nil _
  have Si0 : Sin s s h0 := Sin.start s h0
  refine Go.aloadN (pc' := 1) C X0 d3_0 rfl rfl rfl ?_
  refine Go.aloadN (pc' := 2) C X0 d3_1 rfl rfl rfl ?_
  refine Go.iconst (z := (0 : Int32)) (pc' := 3) C X0 d3_2 rfl rfl ?_
  refine Go.aloadN (pc' := 4) C X0 d3_3 rfl rfl rfl ?_
  refine Go.alen (z := (0 : Int32)) (pc' := 5) C X0 e0 A0 rfl d3_4 rfl ?_
  refine Go.aconstNull (pc' := 6) C X0 d3_5 rfl ?_
  refine Go.callIH (y := mN3) (a := s1) (pc' := 9) C X0 Si0 (EWc hw) Hr0.1 rfl (tw hw 15 rfl) (tw hw 16 rfl) (by decide) (allS ⟨Nat.lt_of_lt_of_le E0.lt (Nat.le_refl _), (CHr.safe Hr0 E0.lt (hsf0 s1 (by simp)))⟩ all0) (rm_sI4z l Z a0 hw s1 a h0 O0 E0 Fv Fc hns) (tw hw 18 rfl) (tw hw 11 rfl) e0 (argsL := [(.ref a), (.int (0 : Int32)), (.int (0 : Int32)), .null]) (rest := []) (W := 0) rfl rfl pd_3 rfl (Nat.le_of_eq rfl) rfl (by decide) (by decide) (by decide) (by decide) rfl d3_6 rfl ?_
  intro T101 v101 L101 sC101 C101 X101 Si101 hR101 q101
  obtain ⟨v_101, kv_101, rfl, N101q, K101, P101_0, P101_1, P101_2⟩ := q101
  have N101 := Fr.app N0 N101q
  have Hr102 := CHr.trans Hr0 hR101
  have K103 : Keep h0 T101.heap [s1] := ((Keep.refl h0 [s1]).trans K101 (allS (Or.inl (by simp)) all0))
  exact Go.retVH C101 X101 Si101 (EWc hw) Hr102 rfl d3_9 ⟨v_101, kv_101, rfl, N101, K103, P101_0, P101_1, P101_2⟩ (by decide) (by decide)
theorem by8_get {xs : List Int32} {i : Nat} {x : Int32} (h : xs[i]? = some x) : (by8 xs)[i]? = some (.int x.toInt8.toInt32) := by simp [by8, h]
theorem sh0 (x : Int32) : (x >>> ((0 : Int32) &&& 31)) = x := by
  have q := c_ishr x (0 : Int32) 0 (by decide)
  apply Int32.toInt_inj.mp
  rw [q]; simp
theorem r255 (y : Int32) : 0 ≤ (y &&& (255 : Int32)).toInt ∧ (y &&& (255 : Int32)).toInt ≤ 255 := by
  have h := c_and y (255 : Int32) (by decide)
  simpa using h
theorem u255 {x : Int32} (h : 0 ≤ x.toInt ∧ x.toInt ≤ 255) : (x.toInt8.toInt32 &&& (255 : Int32)) = x := by
  have h1 := c_i2b x
  have h2 := c_mask x.toInt8.toInt32 (255 : Int32) 8 (by decide) (by decide)
  exact Int32.toInt_inj.mp (by omega)
theorem i2cr {y : Int32} (h : 0 ≤ y.toInt ∧ y.toInt ≤ 255) : y.toUInt32.toUInt16.toUInt32.toInt32 = y := by
  have q := c_i2c y
  exact Int32.toInt_inj.mp (by omega)
theorem narcr {y : Int32} (h : 0 ≤ y.toInt ∧ y.toInt ≤ 255) : nar .char y = y := i2cr h
theorem cch {x : Int32} (h : 0 ≤ x.toInt ∧ x.toInt ≤ 255) : some (Value.int (nar .char ((x.toInt8.toInt32 &&& (255 : Int32)).toUInt32.toUInt16.toUInt32.toInt32))) = some (Value.int x) := by
  rw [u255 h, i2cr h, narcr h]
theorem pf_11 : plainFor mN7 = true := plainFor_of_name (by first | (simp [plainName, overriddenIn]; done) | decide +kernel)
theorem d11_0 : decode jdk_42_method_154_code 0 = .ok (.getstatic 38, 3) := by decide +kernel
theorem d11_3 : decode jdk_42_method_154_code 3 = .ok (.ifCond .eq 14, 3) := by decide +kernel
theorem d11_6 : decode jdk_42_method_154_code 6 = .ok (.aload_n 0, 1) := by decide +kernel
theorem d11_7 : decode jdk_42_method_154_code 7 = .ok (.getfield 15, 3) := by decide +kernel
theorem d11_10 : decode jdk_42_method_154_code 10 = .ok (.ifCond .ne 7, 3) := by decide +kernel
theorem d11_13 : decode jdk_42_method_154_code 13 = .ok (.iconst 1, 1) := by decide +kernel
theorem d11_14 : decode jdk_42_method_154_code 14 = .ok (.goto 4, 3) := by decide +kernel
theorem d11_18 : decode jdk_42_method_154_code 18 = .ok (.ireturn, 1) := by decide +kernel
def Q_isL (Z : State) (s1 : Addr) (cP : Int32) (h0 : Heap) (rv : Option Value) (h : Heap) (L : List Loc) : Prop := rv = some (.int (1 : Int32)) ∧ L = [] ∧ h = h0
theorem rm_isL (l : Launch) (Z : State) (a0 : Array Value) (hw : ∀ d ∈ tables_1, d.before a0 Z = true) (s1 : Addr) (cP : Int32) (h0 : Heap) (O0 : Ext Z.heap h0) (Fc : Fld Z h0 s1 "java/lang/String" "coder" "B" (.int (0 : Int32))) (SC : Sta Z Z.heap "java/lang/String" "COMPACT_STRINGS" "Z" (.int cP)) (hP : ¬ cP = (0 : Int32)) :
    Met1 l Z mN7 jdk_42_method_154_code 1 (some .boolean) ({ frames := 0, cells := 0, slots := 0, locals := 0 } : Room) #[(.ref s1)] h0 (Q_isL Z s1 cP h0) := by
  refine Met1.of_body (Ls := #[.val (.ref s1)]) pf_11 (fun m => by first | (simp [entryFrame, mkF, argsToLocals, Value.category]; done) | rfl) ?_
  intro p e s m below meth c T0 C X0 e0
  have N0 : Fr Z.heap.size [] := Fr.nil _
  refine Go.getS (pc' := 3) (host := "") C X0 (Or.inl (tw hw 49 rfl)) Via.refl e0 (SC.ext O0) d11_0 rfl ?_
  intro T101 X101 e101
  refine Go.ifNo (pc' := 6) C X101 d11_3 ((if0 _ _).trans (feq (x := cP) (y := (0 : Int32)) hP).1) rfl ?_
  refine Go.aloadN (pc' := 7) C X101 d11_6 rfl rfl rfl ?_
  refine Go.getF (pc' := 10) (host := "") C X101 (Or.inl (tw hw 29 rfl)) Via.refl e101 Fc d11_7 rfl ?_
  intro T103 X103 e103
  refine Go.ifNo (pc' := 13) C X103 d11_10 ((if0 _ _).trans (teq (x := (0 : Int32)) (y := (0 : Int32)) (by decide)).2) rfl ?_
  refine Go.iconst (z := (1 : Int32)) (pc' := 14) C X103 d11_13 rfl rfl ?_
  refine Go.goto (pc' := 18) C X103 d11_14 (by decide) (by decide) ?_
  exact Go.retN C X103 rfl d11_18 (by simp) (by rw [e103]; exact ⟨rfl, rfl, rfl⟩) (by decide) (by decide)
theorem pf_9 : plainFor mN5 = true := plainFor_of_name (by first | (simp [plainName, overriddenIn]; done) | decide +kernel)
theorem d9_0 : decode jdk_42_method_152_code 0 = .ok (.getstatic 38, 3) := by decide +kernel
theorem d9_3 : decode jdk_42_method_152_code 3 = .ok (.ifCond .eq 10, 3) := by decide +kernel
theorem d9_6 : decode jdk_42_method_152_code 6 = .ok (.aload_n 0, 1) := by decide +kernel
theorem d9_7 : decode jdk_42_method_152_code 7 = .ok (.getfield 15, 3) := by decide +kernel
theorem d9_10 : decode jdk_42_method_152_code 10 = .ok (.goto 4, 3) := by decide +kernel
theorem d9_14 : decode jdk_42_method_152_code 14 = .ok (.ireturn, 1) := by decide +kernel
def Q_cod (Z : State) (s1 : Addr) (cP : Int32) (h0 : Heap) (rv : Option Value) (h : Heap) (L : List Loc) : Prop := rv = some (.int (0 : Int32)) ∧ L = [] ∧ h = h0
theorem rm_cod (l : Launch) (Z : State) (a0 : Array Value) (hw : ∀ d ∈ tables_1, d.before a0 Z = true) (s1 : Addr) (cP : Int32) (h0 : Heap) (O0 : Ext Z.heap h0) (Fc : Fld Z h0 s1 "java/lang/String" "coder" "B" (.int (0 : Int32))) (SC : Sta Z Z.heap "java/lang/String" "COMPACT_STRINGS" "Z" (.int cP)) (hP : ¬ cP = (0 : Int32)) :
    Met1 l Z mN5 jdk_42_method_152_code 1 (some .byte) ({ frames := 0, cells := 0, slots := 0, locals := 0 } : Room) #[(.ref s1)] h0 (Q_cod Z s1 cP h0) := by
  refine Met1.of_body (Ls := #[.val (.ref s1)]) pf_9 (fun m => by first | (simp [entryFrame, mkF, argsToLocals, Value.category]; done) | rfl) ?_
  intro p e s m below meth c T0 C X0 e0
  have N0 : Fr Z.heap.size [] := Fr.nil _
  refine Go.getS (pc' := 3) (host := "") C X0 (Or.inl (tw hw 49 rfl)) Via.refl e0 (SC.ext O0) d9_0 rfl ?_
  intro T101 X101 e101
  refine Go.ifNo (pc' := 6) C X101 d9_3 ((if0 _ _).trans (feq (x := cP) (y := (0 : Int32)) hP).1) rfl ?_
  refine Go.aloadN (pc' := 7) C X101 d9_6 rfl rfl rfl ?_
  refine Go.getF (pc' := 10) (host := "") C X101 (Or.inl (tw hw 29 rfl)) Via.refl e101 Fc d9_7 rfl ?_
  intro T103 X103 e103
  refine Go.goto (pc' := 14) C X103 d9_10 (by decide) (by decide) ?_
  exact Go.retN C X103 rfl d9_14 (by simp) (by rw [e103]; exact ⟨rfl, rfl, rfl⟩) (by decide) (by decide)
theorem pd_5 : parseMethodDescriptor "()B" = some ⟨[], some .byte⟩ := by decide +kernel
theorem pf_8 : plainFor mN10 = true := plainFor_of_name (by first | (simp [plainName, overriddenIn]; done) | decide +kernel)
theorem d8_0 : decode jdk_42_method_54_code 0 = .ok (.aload_n 0, 1) := by decide +kernel
theorem d8_1 : decode jdk_42_method_54_code 1 = .ok (.getfield 9, 3) := by decide +kernel
theorem d8_4 : decode jdk_42_method_54_code 4 = .ok (.arraylength, 1) := by decide +kernel
theorem d8_5 : decode jdk_42_method_54_code 5 = .ok (.aload_n 0, 1) := by decide +kernel
theorem d8_6 : decode jdk_42_method_54_code 6 = .ok (.invokevirtual 335, 3) := by decide +kernel
theorem d8_9 : decode jdk_42_method_54_code 9 = .ok (.ishr, 1) := by decide +kernel
theorem d8_10 : decode jdk_42_method_54_code 10 = .ok (.ireturn, 1) := by decide +kernel
def Q_len (Z : State) (s1 : Addr) (v : Addr) (k : ClassId) (xs : List Int32) (cP : Int32) (n0 : Int32) (h0 : Heap) (rv : Option Value) (h : Heap) (L : List Loc) : Prop := rv = some (.int n0) ∧ L = [] ∧ h = h0
theorem rm_len (l : Launch) (Z : State) (a0 : Array Value) (hw : ∀ d ∈ tables_1, d.before a0 Z = true) (s1 : Addr) (v : Addr) (k : ClassId) (xs : List Int32) (cP : Int32) (n0 : Int32) (h0 : Heap) (O0 : Ext Z.heap h0) (E0 : Exa Z h0 s1 "java/lang/String") (Fv : Fld Z h0 s1 "java/lang/String" "value" "[B" (.ref v)) (Fc : Fld Z h0 s1 "java/lang/String" "coder" "B" (.int (0 : Int32))) (Bx : AL Z h0 v k .byte (by8 xs)) (SC : Sta Z Z.heap "java/lang/String" "COMPACT_STRINGS" "Z" (.int cP)) (hP : ¬ cP = (0 : Int32)) (hl : xs.length.toInt32 = n0) :
    Met1 l Z mN10 jdk_42_method_54_code 1 (some .int) ({ frames := 1, cells := 0, slots := 0, locals := 13 } : Room) #[(.ref s1)] h0 (Q_len Z s1 v k xs cP n0 h0) := by
  refine Met1.of_body (Ls := #[.val (.ref s1)]) pf_8 (fun m => by first | (simp [entryFrame, mkF, argsToLocals, Value.category]; done) | rfl) ?_
  intro p e s m below meth c T0 C X0 e0
  have N0 : Fr Z.heap.size [] := Fr.nil _
  refine Go.aloadN (pc' := 1) C X0 d8_0 rfl rfl rfl ?_
  refine Go.getF (pc' := 4) (host := "") C X0 (Or.inl (tw hw 28 rfl)) Via.refl e0 Fv d8_1 rfl ?_
  intro T101 X101 e101
  refine Go.alen (z := n0) (pc' := 5) C X101 e101 Bx (by rw [by8_len]; exact hl) d8_4 rfl ?_
  refine Go.aloadN (pc' := 6) C X101 d8_5 rfl rfl rfl ?_
  refine Go.callV (y := mN5) (z := mN5) (a := s1) (pc' := 9) C X101 (tw hw 44 rfl) (tw hw 45 rfl) (notFace_at C.2.1 (tw hw 47 rfl)) (tw hw 47 rfl) (tw hw 46 rfl) E0 (by decide) (rm_cod l Z a0 hw s1 cP h0 O0 Fc SC hP) (tw hw 48 rfl) (tw hw 11 rfl) e101 (argsL := []) (rest := [(.int n0)]) (W := 1) rfl rfl pd_5 rfl (Nat.le_of_eq rfl) rfl (by decide) (by decide) (by decide) (by decide) d8_6 rfl ?_
  intro T102 v102 L102 X102 q102
  obtain ⟨rfl, rfl, e102⟩ := q102
  have N102 := Fr.app N0 (Fr.nil _)
  refine Go.ishr (pc' := 10) C X102 d8_9 rfl ?_
  exact Go.retI C X102 rfl d8_10 (by rw [e102]; exact ⟨(congrArg (fun z => some (Value.int z)) (sh0 n0)), (by simp), rfl⟩) (by decide) (by decide)
theorem own_m5 (x : Int32) : ((x &&& (2147483647 : Int32)) % (5 : Int32)) = (0 : Int32) ∨ ((x &&& (2147483647 : Int32)) % (5 : Int32)) = (1 : Int32) ∨ ((x &&& (2147483647 : Int32)) % (5 : Int32)) = (2 : Int32) ∨ ((x &&& (2147483647 : Int32)) % (5 : Int32)) = (3 : Int32) ∨ ((x &&& (2147483647 : Int32)) % (5 : Int32)) = (4 : Int32) := by
  have h := c_mask x (2147483647 : Int32) 31 (by decide) (by decide)
  have q := (c_irem (x &&& (2147483647 : Int32)) (5 : Int32) 5 (by decide)).1 (by omega)
  simp only [← Int32.toInt_inj, Int32.reduceToInt]; omega
theorem all1 {P : Int32 → Prop} {a : Int32} (ha : P a) : ∀ x ∈ [a], P x := by
  intro y hy; simp only [List.mem_cons, List.not_mem_nil, or_false] at hy; rcases hy with rfl; assumption
theorem all2 {P : Int32 → Prop} {a b : Int32} (ha : P a) (hb : P b) : ∀ x ∈ [a, b], P x := by
  intro y hy; simp only [List.mem_cons, List.not_mem_nil, or_false] at hy; rcases hy with rfl | rfl <;> assumption
theorem all3 {P : Int32 → Prop} {a b c : Int32} (ha : P a) (hb : P b) (hc : P c) : ∀ x ∈ [a, b, c], P x := by
  intro y hy; simp only [List.mem_cons, List.not_mem_nil, or_false] at hy; rcases hy with rfl | rfl | rfl <;> assumption
theorem all4 {P : Int32 → Prop} {a b c d : Int32} (ha : P a) (hb : P b) (hc : P c) (hd : P d) : ∀ x ∈ [a, b, c, d], P x := by
  intro y hy; simp only [List.mem_cons, List.not_mem_nil, or_false] at hy; rcases hy with rfl | rfl | rfl | rfl <;> assumption
theorem b64 {x : Int32} (h : 0 ≤ x.toInt ∧ x.toInt ≤ 255) : x.toInt8.toInt32 = (64 : Int32).toInt8.toInt32 ↔ x = (64 : Int32) := by
  refine ⟨fun q => ?_, fun q => by rw [q]⟩
  have h1 := c_i2b x
  have h2 : (64 : Int32).toInt8.toInt32.toInt = 64 := by decide
  rw [q, h2] at h1
  exact Int32.toInt_inj.mp (by simp only [Int32.reduceToInt]; omega)
theorem fit8 (cs : List Int32) : ∀ v ∈ by8 cs, fits .byte v = true := by
  intro v hv
  obtain ⟨x, -, rfl⟩ := List.mem_map.mp hv
  have := fits_nar_byte x.toInt8.toInt32
  simpa using this
theorem fit0 (n : Nat) : ∀ v ∈ List.replicate n (Value.int (0 : Int32)), fits .byte v = true := by
  intro v hv; rw [(List.mem_replicate.mp hv).2]; rfl
theorem pf_1 : plainFor mN31 = true := plainFor_of_name (by first | (simp [plainName, overriddenIn]; done) | decide +kernel)
theorem d1_0 : decode method_2_code 0 = .ok (.iload_n 0, 1) := by decide +kernel
theorem d1_1 : decode method_2_code 1 = .ok (.sipush 256, 3) := by decide +kernel
theorem d1_4 : decode method_2_code 4 = .ok (.iand, 1) := by decide +kernel
theorem d1_5 : decode method_2_code 5 = .ok (.ifCond .eq 8, 3) := by decide +kernel
theorem d1_8 : decode method_2_code 8 = .ok (.bipush 64, 2) := by decide +kernel
theorem d1_10 : decode method_2_code 10 = .ok (.goto 9, 3) := by decide +kernel
theorem d1_13 : decode method_2_code 13 = .ok (.iload_n 0, 1) := by decide +kernel
theorem d1_14 : decode method_2_code 14 = .ok (.sipush 255, 3) := by decide +kernel
theorem d1_17 : decode method_2_code 17 = .ok (.iand, 1) := by decide +kernel
theorem d1_18 : decode method_2_code 18 = .ok (.i2c, 1) := by decide +kernel
theorem d1_19 : decode method_2_code 19 = .ok (.ireturn, 1) := by decide +kernel
def Q_ch (Z : State) (y0 : Int32) (h0 : Heap) (rv : Option Value) (h : Heap) (L : List Loc) : Prop := ∃ r : Int32, rv = some (.int r) ∧ L = [] ∧ h = h0 ∧ (0 ≤ r.toInt ∧ r.toInt ≤ 255)
theorem rm_ch (l : Launch) (Z : State) (a0 : Array Value) (hw : ∀ d ∈ tables_1, d.before a0 Z = true) (y0 : Int32) (h0 : Heap) (O0 : Ext Z.heap h0) :
    Met1 l Z mN31 method_2_code 1 (some .char) ({ frames := 0, cells := 0, slots := 0, locals := 0 } : Room) #[(.int y0)] h0 (Q_ch Z y0 h0) := by
  refine Met1.of_body (Ls := #[.val (.int y0)]) pf_1 (fun m => by first | (simp [entryFrame, mkF, argsToLocals, Value.category]; done) | rfl) ?_
  intro p e s m below meth c T0 C X0 e0
  have N0 : Fr Z.heap.size [] := Fr.nil _
  refine Go.iloadN (pc' := 1) C X0 d1_0 rfl rfl ?_
  refine Go.sipush (z := (256 : Int32)) (pc' := 4) C X0 d1_1 rfl rfl ?_
  refine Go.iand (pc' := 5) C X0 d1_4 rfl ?_
  by_cases hc5_101 : (y0 &&& (256 : Int32)) = (0 : Int32)
  · refine Go.ifYes (pc' := 13) C X0 d1_5 ((if0 _ _).trans (teq (x := (y0 &&& (256 : Int32))) (y := (0 : Int32)) hc5_101).1) (by decide) (by decide) ?_
    refine Go.iloadN (pc' := 14) C X0 d1_13 rfl rfl ?_
    refine Go.sipush (z := (255 : Int32)) (pc' := 17) C X0 d1_14 rfl rfl ?_
    refine Go.iand (pc' := 18) C X0 d1_17 rfl ?_
    refine Go.i2c (pc' := 19) C X0 d1_18 rfl ?_
    exact Go.retN C X0 rfl d1_19 (by simp) (by rw [e0]; exact ⟨(y0 &&& (255 : Int32)), (by rw [i2cr (r255 y0), narcr (r255 y0)]), rfl, rfl, (r255 y0)⟩) (by decide) (by decide)
  · refine Go.ifNo (pc' := 8) C X0 d1_5 ((if0 _ _).trans (feq (x := (y0 &&& (256 : Int32))) (y := (0 : Int32)) hc5_101).1) rfl ?_
    refine Go.bipush (z := (64 : Int32)) (pc' := 10) C X0 d1_8 rfl rfl ?_
    refine Go.goto (pc' := 19) C X0 d1_10 (by decide) (by decide) ?_
    exact Go.retN C X0 rfl d1_19 (by simp) (by rw [e0]; exact ⟨(64 : Int32), rfl, rfl, rfl, (by decide)⟩) (by decide) (by decide)
theorem pf_17 : plainFor mN32 = true := plainFor_of_name (by first | (simp [plainName, overriddenIn]; done) | decide +kernel)
theorem d17_0 : decode method_3_code 0 = .ok (.iload 4, 2) := by decide +kernel
theorem d17_2 : decode method_3_code 2 = .ok (.ifCond .ne 7, 3) := by decide +kernel
theorem d17_5 : decode method_3_code 5 = .ok (.iload_n 0, 1) := by decide +kernel
theorem d17_6 : decode method_3_code 6 = .ok (.goto 24, 3) := by decide +kernel
theorem d17_30 : decode method_3_code 30 = .ok (.ireturn, 1) := by decide +kernel
def Q_pk0 (Z : State) (x0 : Int32) (x1 : Int32) (x2 : Int32) (x3 : Int32) (h0 : Heap) (rv : Option Value) (h : Heap) (L : List Loc) : Prop := rv = some (.int x0) ∧ L = [] ∧ h = h0
theorem rm_pk0 (l : Launch) (Z : State) (a0 : Array Value) (hw : ∀ d ∈ tables_1, d.before a0 Z = true) (x0 : Int32) (x1 : Int32) (x2 : Int32) (x3 : Int32) (h0 : Heap) (O0 : Ext Z.heap h0) (hr : 0 ≤ x0.toInt ∧ x0.toInt ≤ 255) :
    Met1 l Z mN32 method_3_code 5 (some .char) ({ frames := 0, cells := 0, slots := 0, locals := 0 } : Room) #[(.int x0), (.int x1), (.int x2), (.int x3), (.int (0 : Int32))] h0 (Q_pk0 Z x0 x1 x2 x3 h0) := by
  refine Met1.of_body (Ls := #[.val (.int x0), .val (.int x1), .val (.int x2), .val (.int x3), .val (.int (0 : Int32))]) pf_17 (fun m => by first | (simp [entryFrame, mkF, argsToLocals, Value.category]; done) | rfl) ?_
  intro p e s m below meth c T0 C X0 e0
  have N0 : Fr Z.heap.size [] := Fr.nil _
  refine Go.iload (pc' := 2) C X0 d17_0 rfl rfl ?_
  refine Go.ifNo (pc' := 5) C X0 d17_2 ((if0 _ _).trans (teq (x := (0 : Int32)) (y := (0 : Int32)) (by decide)).2) rfl ?_
  refine Go.iloadN (pc' := 6) C X0 d17_5 rfl rfl ?_
  refine Go.goto (pc' := 30) C X0 d17_6 (by decide) (by decide) ?_
  exact Go.retN C X0 rfl d17_30 (by simp) (by rw [e0]; exact ⟨(congrArg (fun z => some (Value.int z)) (narcr hr)), rfl, rfl⟩) (by decide) (by decide)
theorem d17_9 : decode method_3_code 9 = .ok (.iload 4, 2) := by decide +kernel
theorem d17_11 : decode method_3_code 11 = .ok (.iconst 1, 1) := by decide +kernel
theorem d17_12 : decode method_3_code 12 = .ok (.if_icmp .ne 7, 3) := by decide +kernel
theorem d17_15 : decode method_3_code 15 = .ok (.iload_n 1, 1) := by decide +kernel
theorem d17_16 : decode method_3_code 16 = .ok (.goto 14, 3) := by decide +kernel
def Q_pk1 (Z : State) (x0 : Int32) (x1 : Int32) (x2 : Int32) (x3 : Int32) (h0 : Heap) (rv : Option Value) (h : Heap) (L : List Loc) : Prop := rv = some (.int x1) ∧ L = [] ∧ h = h0
theorem rm_pk1 (l : Launch) (Z : State) (a0 : Array Value) (hw : ∀ d ∈ tables_1, d.before a0 Z = true) (x0 : Int32) (x1 : Int32) (x2 : Int32) (x3 : Int32) (h0 : Heap) (O0 : Ext Z.heap h0) (hr : 0 ≤ x1.toInt ∧ x1.toInt ≤ 255) :
    Met1 l Z mN32 method_3_code 5 (some .char) ({ frames := 0, cells := 0, slots := 0, locals := 0 } : Room) #[(.int x0), (.int x1), (.int x2), (.int x3), (.int (1 : Int32))] h0 (Q_pk1 Z x0 x1 x2 x3 h0) := by
  refine Met1.of_body (Ls := #[.val (.int x0), .val (.int x1), .val (.int x2), .val (.int x3), .val (.int (1 : Int32))]) pf_17 (fun m => by first | (simp [entryFrame, mkF, argsToLocals, Value.category]; done) | rfl) ?_
  intro p e s m below meth c T0 C X0 e0
  have N0 : Fr Z.heap.size [] := Fr.nil _
  refine Go.iload (pc' := 2) C X0 d17_0 rfl rfl ?_
  refine Go.ifYes (pc' := 9) C X0 d17_2 ((if0 _ _).trans (feq (x := (1 : Int32)) (y := (0 : Int32)) (by decide)).2) (by decide) (by decide) ?_
  refine Go.iload (pc' := 11) C X0 d17_9 rfl rfl ?_
  refine Go.iconst (z := (1 : Int32)) (pc' := 12) C X0 d17_11 rfl rfl ?_
  refine Go.icmpNo (pc' := 15) C X0 d17_12 (teq (x := (1 : Int32)) (y := (1 : Int32)) (by decide)).2 rfl ?_
  refine Go.iloadN (pc' := 16) C X0 d17_15 rfl rfl ?_
  refine Go.goto (pc' := 30) C X0 d17_16 (by decide) (by decide) ?_
  exact Go.retN C X0 rfl d17_30 (by simp) (by rw [e0]; exact ⟨(congrArg (fun z => some (Value.int z)) (narcr hr)), rfl, rfl⟩) (by decide) (by decide)
theorem d17_19 : decode method_3_code 19 = .ok (.iload 4, 2) := by decide +kernel
theorem d17_21 : decode method_3_code 21 = .ok (.iconst 2, 1) := by decide +kernel
theorem d17_22 : decode method_3_code 22 = .ok (.if_icmp .ne 7, 3) := by decide +kernel
theorem d17_25 : decode method_3_code 25 = .ok (.iload_n 2, 1) := by decide +kernel
theorem d17_26 : decode method_3_code 26 = .ok (.goto 4, 3) := by decide +kernel
def Q_pk2 (Z : State) (x0 : Int32) (x1 : Int32) (x2 : Int32) (x3 : Int32) (h0 : Heap) (rv : Option Value) (h : Heap) (L : List Loc) : Prop := rv = some (.int x2) ∧ L = [] ∧ h = h0
theorem rm_pk2 (l : Launch) (Z : State) (a0 : Array Value) (hw : ∀ d ∈ tables_1, d.before a0 Z = true) (x0 : Int32) (x1 : Int32) (x2 : Int32) (x3 : Int32) (h0 : Heap) (O0 : Ext Z.heap h0) (hr : 0 ≤ x2.toInt ∧ x2.toInt ≤ 255) :
    Met1 l Z mN32 method_3_code 5 (some .char) ({ frames := 0, cells := 0, slots := 0, locals := 0 } : Room) #[(.int x0), (.int x1), (.int x2), (.int x3), (.int (2 : Int32))] h0 (Q_pk2 Z x0 x1 x2 x3 h0) := by
  refine Met1.of_body (Ls := #[.val (.int x0), .val (.int x1), .val (.int x2), .val (.int x3), .val (.int (2 : Int32))]) pf_17 (fun m => by first | (simp [entryFrame, mkF, argsToLocals, Value.category]; done) | rfl) ?_
  intro p e s m below meth c T0 C X0 e0
  have N0 : Fr Z.heap.size [] := Fr.nil _
  refine Go.iload (pc' := 2) C X0 d17_0 rfl rfl ?_
  refine Go.ifYes (pc' := 9) C X0 d17_2 ((if0 _ _).trans (feq (x := (2 : Int32)) (y := (0 : Int32)) (by decide)).2) (by decide) (by decide) ?_
  refine Go.iload (pc' := 11) C X0 d17_9 rfl rfl ?_
  refine Go.iconst (z := (1 : Int32)) (pc' := 12) C X0 d17_11 rfl rfl ?_
  refine Go.icmpYes (pc' := 19) C X0 d17_12 (feq (x := (2 : Int32)) (y := (1 : Int32)) (by decide)).2 (by decide) (by decide) ?_
  refine Go.iload (pc' := 21) C X0 d17_19 rfl rfl ?_
  refine Go.iconst (z := (2 : Int32)) (pc' := 22) C X0 d17_21 rfl rfl ?_
  refine Go.icmpNo (pc' := 25) C X0 d17_22 (teq (x := (2 : Int32)) (y := (2 : Int32)) (by decide)).2 rfl ?_
  refine Go.iloadN (pc' := 26) C X0 d17_25 rfl rfl ?_
  refine Go.goto (pc' := 30) C X0 d17_26 (by decide) (by decide) ?_
  exact Go.retN C X0 rfl d17_30 (by simp) (by rw [e0]; exact ⟨(congrArg (fun z => some (Value.int z)) (narcr hr)), rfl, rfl⟩) (by decide) (by decide)
theorem d17_29 : decode method_3_code 29 = .ok (.iload_n 3, 1) := by decide +kernel
def Q_pk3 (Z : State) (x0 : Int32) (x1 : Int32) (x2 : Int32) (x3 : Int32) (h0 : Heap) (rv : Option Value) (h : Heap) (L : List Loc) : Prop := rv = some (.int x3) ∧ L = [] ∧ h = h0
theorem rm_pk3 (l : Launch) (Z : State) (a0 : Array Value) (hw : ∀ d ∈ tables_1, d.before a0 Z = true) (x0 : Int32) (x1 : Int32) (x2 : Int32) (x3 : Int32) (h0 : Heap) (O0 : Ext Z.heap h0) (hr : 0 ≤ x3.toInt ∧ x3.toInt ≤ 255) :
    Met1 l Z mN32 method_3_code 5 (some .char) ({ frames := 0, cells := 0, slots := 0, locals := 0 } : Room) #[(.int x0), (.int x1), (.int x2), (.int x3), (.int (3 : Int32))] h0 (Q_pk3 Z x0 x1 x2 x3 h0) := by
  refine Met1.of_body (Ls := #[.val (.int x0), .val (.int x1), .val (.int x2), .val (.int x3), .val (.int (3 : Int32))]) pf_17 (fun m => by first | (simp [entryFrame, mkF, argsToLocals, Value.category]; done) | rfl) ?_
  intro p e s m below meth c T0 C X0 e0
  have N0 : Fr Z.heap.size [] := Fr.nil _
  refine Go.iload (pc' := 2) C X0 d17_0 rfl rfl ?_
  refine Go.ifYes (pc' := 9) C X0 d17_2 ((if0 _ _).trans (feq (x := (3 : Int32)) (y := (0 : Int32)) (by decide)).2) (by decide) (by decide) ?_
  refine Go.iload (pc' := 11) C X0 d17_9 rfl rfl ?_
  refine Go.iconst (z := (1 : Int32)) (pc' := 12) C X0 d17_11 rfl rfl ?_
  refine Go.icmpYes (pc' := 19) C X0 d17_12 (feq (x := (3 : Int32)) (y := (1 : Int32)) (by decide)).2 (by decide) (by decide) ?_
  refine Go.iload (pc' := 21) C X0 d17_19 rfl rfl ?_
  refine Go.iconst (z := (2 : Int32)) (pc' := 22) C X0 d17_21 rfl rfl ?_
  refine Go.icmpYes (pc' := 29) C X0 d17_22 (feq (x := (3 : Int32)) (y := (2 : Int32)) (by decide)).2 (by decide) (by decide) ?_
  refine Go.iloadN (pc' := 30) C X0 d17_29 rfl rfl ?_
  exact Go.retN C X0 rfl d17_30 (by simp) (by rw [e0]; exact ⟨(congrArg (fun z => some (Value.int z)) (narcr hr)), rfl, rfl⟩) (by decide) (by decide)
theorem pf_14 : plainFor mN0 = true := Jvm.Free.JP.mathPlain rfl (by decide +kernel)
theorem d14_0 : decode jdk_29_method_69_code 0 = .ok (.iload_n 0, 1) := by decide +kernel
theorem d14_1 : decode jdk_29_method_69_code 1 = .ok (.iload_n 1, 1) := by decide +kernel
theorem d14_2 : decode jdk_29_method_69_code 2 = .ok (.if_icmp .gt 7, 3) := by decide +kernel
theorem d14_5 : decode jdk_29_method_69_code 5 = .ok (.iload_n 0, 1) := by decide +kernel
theorem d14_6 : decode jdk_29_method_69_code 6 = .ok (.goto 4, 3) := by decide +kernel
theorem d14_10 : decode jdk_29_method_69_code 10 = .ok (.ireturn, 1) := by decide +kernel
def Q_mn (Z : State) (x : Int32) (h0 : Heap) (rv : Option Value) (h : Heap) (L : List Loc) : Prop := rv = some (.int x) ∧ L = [] ∧ h = h0
theorem rm_mn (l : Launch) (Z : State) (a0 : Array Value) (hw : ∀ d ∈ tables_1, d.before a0 Z = true) (x : Int32) (h0 : Heap) (O0 : Ext Z.heap h0) :
    Met1 l Z mN0 jdk_29_method_69_code 2 (some .int) ({ frames := 0, cells := 0, slots := 0, locals := 0 } : Room) #[(.int x), (.int x)] h0 (Q_mn Z x h0) := by
  refine Met1.of_body (Ls := #[.val (.int x), .val (.int x)]) pf_14 (fun m => by first | (simp [entryFrame, mkF, argsToLocals, Value.category]; done) | rfl) ?_
  intro p e s m below meth c T0 C X0 e0
  have N0 : Fr Z.heap.size [] := Fr.nil _
  refine Go.iloadN (pc' := 1) C X0 d14_0 rfl rfl ?_
  refine Go.iloadN (pc' := 2) C X0 d14_1 rfl rfl ?_
  refine Go.icmpNo (pc' := 5) C X0 d14_2 (flt (x := x) (y := x) (by rw [Int32.lt_iff_toInt_lt]; omega)).2.2.1 rfl ?_
  refine Go.iloadN (pc' := 6) C X0 d14_5 rfl rfl ?_
  refine Go.goto (pc' := 10) C X0 d14_6 (by decide) (by decide) ?_
  exact Go.retI C X0 rfl d14_10 (by rw [e0]; exact ⟨rfl, rfl, rfl⟩) (by decide) (by decide)
theorem pf_13 : plainFor mN13 = true := plainFor_of_name (by first | (simp [plainName, overriddenIn]; done) | decide +kernel)
theorem d13_0 : decode jdk_43_method_4_code 0 = .ok (.iload_n 0, 1) := by decide +kernel
theorem d13_1 : decode jdk_43_method_4_code 1 = .ok (.ifCond .lt 14, 3) := by decide +kernel
theorem d13_4 : decode jdk_43_method_4_code 4 = .ok (.iload_n 0, 1) := by decide +kernel
theorem d13_5 : decode jdk_43_method_4_code 5 = .ok (.sipush 255, 3) := by decide +kernel
theorem d13_8 : decode jdk_43_method_4_code 8 = .ok (.if_icmp .gt 7, 3) := by decide +kernel
theorem d13_11 : decode jdk_43_method_4_code 11 = .ok (.iconst 1, 1) := by decide +kernel
theorem d13_12 : decode jdk_43_method_4_code 12 = .ok (.goto 4, 3) := by decide +kernel
theorem d13_16 : decode jdk_43_method_4_code 16 = .ok (.ireturn, 1) := by decide +kernel
def Q_ce (Z : State)  (h0 : Heap) (rv : Option Value) (h : Heap) (L : List Loc) : Prop := rv = some (.int (1 : Int32)) ∧ L = [] ∧ h = h0
theorem rm_ce (l : Launch) (Z : State) (a0 : Array Value) (hw : ∀ d ∈ tables_1, d.before a0 Z = true)  (h0 : Heap) (O0 : Ext Z.heap h0) :
    Met1 l Z mN13 jdk_43_method_4_code 1 (some .boolean) ({ frames := 0, cells := 0, slots := 0, locals := 0 } : Room) #[(.int (64 : Int32))] h0 (Q_ce Z  h0) := by
  refine Met1.of_body (Ls := #[.val (.int (64 : Int32))]) pf_13 (fun m => by first | (simp [entryFrame, mkF, argsToLocals, Value.category]; done) | rfl) ?_
  intro p e s m below meth c T0 C X0 e0
  have N0 : Fr Z.heap.size [] := Fr.nil _
  refine Go.iloadN (pc' := 1) C X0 d13_0 rfl rfl ?_
  refine Go.ifNo (pc' := 4) C X0 d13_1 ((if0 _ _).trans (flt (x := (64 : Int32)) (y := (0 : Int32)) (by decide)).1) rfl ?_
  refine Go.iloadN (pc' := 5) C X0 d13_4 rfl rfl ?_
  refine Go.sipush (z := (255 : Int32)) (pc' := 8) C X0 d13_5 rfl rfl ?_
  refine Go.icmpNo (pc' := 11) C X0 d13_8 (flt (x := (255 : Int32)) (y := (64 : Int32)) (by decide)).2.2.1 rfl ?_
  refine Go.iconst (z := (1 : Int32)) (pc' := 12) C X0 d13_11 rfl rfl ?_
  refine Go.goto (pc' := 16) C X0 d13_12 (by decide) (by decide) ?_
  exact Go.retN C X0 rfl d13_16 (by simp) (by rw [e0]; exact ⟨rfl, rfl, rfl⟩) (by decide) (by decide)
theorem pf_35 : plainFor mN1 = true := plainFor_of_name (by first | (simp [plainName, overriddenIn]; done) | decide +kernel)
theorem d35_0 : decode jdk_42_method_151_code 0 = .ok (.aload_n 0, 1) := by decide +kernel
theorem d35_1 : decode jdk_42_method_151_code 1 = .ok (.invokespecial 1, 3) := by decide +kernel
theorem d35_4 : decode jdk_42_method_151_code 4 = .ok (.aload_n 0, 1) := by decide +kernel
theorem d35_5 : decode jdk_42_method_151_code 5 = .ok (.aload_n 1, 1) := by decide +kernel
theorem d35_6 : decode jdk_42_method_151_code 6 = .ok (.putfield 9, 3) := by decide +kernel
theorem d35_9 : decode jdk_42_method_151_code 9 = .ok (.aload_n 0, 1) := by decide +kernel
theorem d35_10 : decode jdk_42_method_151_code 10 = .ok (.iload_n 2, 1) := by decide +kernel
theorem d35_11 : decode jdk_42_method_151_code 11 = .ok (.putfield 15, 3) := by decide +kernel
theorem d35_14 : decode jdk_42_method_151_code 14 = .ok (.return_, 1) := by decide +kernel
def Q_sIb (Z : State) (s1 : Addr) (v : Addr) (h0 : Heap) (rv : Option Value) (h : Heap) (L : List Loc) : Prop := rv = none ∧ Fr Z.heap.size L ∧ Keep h0 h [s1] ∧ Fld Z h s1 "java/lang/String" "value" "[B" (.ref v) ∧ Fld Z h s1 "java/lang/String" "coder" "B" (.int (0 : Int32))
theorem rm_sIb (l : Launch) (Z : State) (a0 : Array Value) (hw : ∀ d ∈ tables_1, d.before a0 Z = true) (s1 : Addr) (v : Addr) (h0 : Heap) (O0 : Ext Z.heap h0) (E0 : Exa Z h0 s1 "java/lang/String") (F1 : Fld Z h0 s1 "java/lang/String" "value" "[B" .null) (F2 : Fld Z h0 s1 "java/lang/String" "coder" "B" (.int (0 : Int32))) (hn : Z.heap.size ≤ s1) :
    Met1 l Z mN1 jdk_42_method_151_code 3 none ({ frames := 1, cells := 0, slots := 0, locals := 12 } : Room) #[(.ref s1), (.ref v), (.int (0 : Int32))] h0 (Q_sIb Z s1 v h0) := by
  refine Met1.of_body (Ls := #[.val (.ref s1), .val (.ref v), .val (.int (0 : Int32))]) pf_35 (fun m => by first | (simp [entryFrame, mkF, argsToLocals, Value.category]; done) | rfl) ?_
  intro p e s m below meth c T0 C X0 e0
  have N0 : Fr Z.heap.size [] := Fr.nil _
  refine Go.aloadN (pc' := 1) C X0 d35_0 rfl rfl rfl ?_
  refine Go.initO (pc' := 4) (W := 0) C X0 (tw hw 19 rfl) (tw hw 20 rfl) (tw hw 21 rfl) e0 rfl (by decide) (Nat.le_of_eq rfl) (by decide) d35_1 rfl ?_
  intro T101 X101 e101
  refine Go.aloadN (pc' := 5) C X101 d35_4 rfl rfl rfl ?_
  refine Go.aloadN (pc' := 6) C X101 d35_5 rfl rfl rfl ?_
  refine Go.putF (pc' := 9) (host := "") (ty := (.array .byte)) C X101 (Or.inl (tw hw 28 rfl)) Via.refl e101 F1 E0 (Or.inr ⟨(tw hw 24 rfl), rfl, rfl⟩) (tw hw 10 rfl) (by decide) rfl rfl d35_6 rfl ?_
  intro T102 h102 X102 e102 W102 F102
  have N102 := Fr.snoc X102 N0 hn
  refine Go.aloadN (pc' := 10) C X102 d35_9 rfl rfl rfl ?_
  refine Go.iloadN (pc' := 11) C X102 d35_10 rfl rfl ?_
  have c104 : Fld Z h102 s1 "java/lang/String" "coder" "B" (.int (0 : Int32)) := (Fld.other W102 F2 (Or.inr (slot_ne (Or.inr (tw hw 25 rfl)) (Or.inr (tw hw 24 rfl)) (by decide) (t := .byte) (t' := (.array .byte)) (by decide) (by decide))))
  have c105 : Exa Z h102 s1 "java/lang/String" := (Exa.wr W102 E0)
  refine Go.putFN (pc' := 14) (ty := .byte) (v' := .int (0 : Int32)) C X102 (tw hw 29 rfl) Via.refl e102 c104 c105 (Or.inr ⟨(tw hw 25 rfl), rfl, rfl⟩) (tw hw 10 rfl) (by decide) rfl (by decide) d35_11 rfl ?_
  intro T103 h103 X103 e103 W103 F103
  have N103 := Fr.snoc X103 N102 hn
  have K106 : Keep h0 h103 [s1] := (((Keep.refl h0 [s1]).wr W102 (Or.inl (by simp))).wr W103 (Or.inl (by simp)))
  have c107 : Fld Z h103 s1 "java/lang/String" "value" "[B" (.ref v) := (Fld.other W103 F102 (Or.inr (slot_ne (Or.inr (tw hw 24 rfl)) (Or.inr (tw hw 25 rfl)) (by decide) (t := (.array .byte)) (t' := .byte) (by decide) (by decide))))
  exact Go.retV C X103 rfl d35_14 (by rw [e103]; exact ⟨rfl, N103, K106, c107, F103⟩) (by decide) (by decide)
theorem pf_27 : plainFor mN23 = true := plainFor_of_name (by first | (simp [plainName, overriddenIn]; done) | decide +kernel)
theorem d27_0 : decode jdk_31_method_10_code 0 = .ok (.aload_n 0, 1) := by decide +kernel
theorem d27_1 : decode jdk_31_method_10_code 1 = .ok (.ifnonnull 11, 3) := by decide +kernel
theorem d27_12 : decode jdk_31_method_10_code 12 = .ok (.aload_n 0, 1) := by decide +kernel
theorem d27_13 : decode jdk_31_method_10_code 13 = .ok (.areturn, 1) := by decide +kernel
def Q_rn (Z : State) (d : Addr) (h0 : Heap) (rv : Option Value) (h : Heap) (L : List Loc) : Prop := rv = some (.ref d) ∧ L = [] ∧ h = h0
theorem rm_rn (l : Launch) (Z : State) (a0 : Array Value) (hw : ∀ d ∈ tables_1, d.before a0 Z = true) (d : Addr) (h0 : Heap) (O0 : Ext Z.heap h0) :
    Met1 l Z mN23 jdk_31_method_10_code 1 (some (.object "java/lang/Object")) ({ frames := 0, cells := 0, slots := 0, locals := 0 } : Room) #[(.ref d)] h0 (Q_rn Z d h0) := by
  refine Met1.of_body (Ls := #[.val (.ref d)]) pf_27 (fun m => by first | (simp [entryFrame, mkF, argsToLocals, Value.category]; done) | rfl) ?_
  intro p e s m below meth c T0 C X0 e0
  have N0 : Fr Z.heap.size [] := Fr.nil _
  refine Go.aloadN (pc' := 1) C X0 d27_0 rfl rfl rfl ?_
  refine Go.ifnonnullYes (pc' := 12) C X0 d27_1 (by decide) (by decide) ?_
  refine Go.aloadN (pc' := 13) C X0 d27_12 rfl rfl rfl ?_
  exact Go.retA C X0 rfl d27_13 rfl rfl rfl (by rw [e0]; exact ⟨rfl, rfl, rfl⟩) (by decide) (by decide)
theorem pf_28 : plainFor mN24 = true := plainFor_of_name (by first | (simp [plainName, overriddenIn]; done) | decide +kernel)
theorem d28_0 : decode jdk_32_method_2_code 0 = .ok (.aload_n 0, 1) := by decide +kernel
theorem d28_1 : decode jdk_32_method_2_code 1 = .ok (.invokespecial 7, 3) := by decide +kernel
theorem d28_4 : decode jdk_32_method_2_code 4 = .ok (.aload_n 0, 1) := by decide +kernel
theorem d28_5 : decode jdk_32_method_2_code 5 = .ok (.aload_n 1, 1) := by decide +kernel
theorem d28_6 : decode jdk_32_method_2_code 6 = .ok (.putfield 13, 3) := by decide +kernel
theorem d28_9 : decode jdk_32_method_2_code 9 = .ok (.return_, 1) := by decide +kernel
def Q_oI (Z : State) (o : Addr) (d : Addr) (h0 : Heap) (rv : Option Value) (h : Heap) (L : List Loc) : Prop := rv = none ∧ Fr Z.heap.size L ∧ Keep h0 h [o] ∧ Fld Z h o "java/util/Optional" "value" "Ljava/lang/Object;" (.ref d)
theorem rm_oI (l : Launch) (Z : State) (a0 : Array Value) (hw : ∀ d ∈ tables_1, d.before a0 Z = true) (o : Addr) (d : Addr) (h0 : Heap) (O0 : Ext Z.heap h0) (E0 : Exa Z h0 o "java/util/Optional") (F1 : Fld Z h0 o "java/util/Optional" "value" "Ljava/lang/Object;" .null) (hn : Z.heap.size ≤ o) :
    Met1 l Z mN24 jdk_32_method_2_code 2 none ({ frames := 1, cells := 0, slots := 0, locals := 12 } : Room) #[(.ref o), (.ref d)] h0 (Q_oI Z o d h0) := by
  refine Met1.of_body (Ls := #[.val (.ref o), .val (.ref d)]) pf_28 (fun m => by first | (simp [entryFrame, mkF, argsToLocals, Value.category]; done) | rfl) ?_
  intro p e s m below meth c T0 C X0 e0
  have N0 : Fr Z.heap.size [] := Fr.nil _
  refine Go.aloadN (pc' := 1) C X0 d28_0 rfl rfl rfl ?_
  refine Go.initO (pc' := 4) (W := 0) C X0 (tw hw 131 rfl) (tw hw 20 rfl) (tw hw 21 rfl) e0 rfl (by decide) (Nat.le_of_eq rfl) (by decide) d28_1 rfl ?_
  intro T101 X101 e101
  refine Go.aloadN (pc' := 5) C X101 d28_4 rfl rfl rfl ?_
  refine Go.aloadN (pc' := 6) C X101 d28_5 rfl rfl rfl ?_
  refine Go.putF (pc' := 9) (host := "") (ty := (.object "java/lang/Object")) C X101 (Or.inl (tw hw 81 rfl)) Via.refl e101 F1 E0 (Or.inr ⟨(tw hw 82 rfl), rfl, rfl⟩) (tw hw 122 rfl) (by decide) rfl rfl d28_6 rfl ?_
  intro T102 h102 X102 e102 W102 F102
  have N102 := Fr.snoc X102 N0 hn
  have K103 : Keep h0 h102 [o] := ((Keep.refl h0 [o]).wr W102 (Or.inl (by simp)))
  exact Go.retV C X102 rfl d28_9 (by rw [e102]; exact ⟨rfl, N102, K103, F102⟩) (by decide) (by decide)
theorem pd_6 : parseMethodDescriptor "(Ljava/lang/Object;)Ljava/lang/Object;" = some ⟨[(.object "java/lang/Object")], some (.object "java/lang/Object")⟩ := by decide +kernel
theorem pd_7 : parseMethodDescriptor "(Ljava/lang/Object;)V" = some ⟨[(.object "java/lang/Object")], none⟩ := by decide +kernel
theorem pf_26 : plainFor mN28 = true := plainFor_of_name (by first | (simp [plainName, overriddenIn]; done) | decide +kernel)
theorem d26_0 : decode jdk_32_method_3_code 0 = .ok (.new 2, 3) := by decide +kernel
theorem d26_3 : decode jdk_32_method_3_code 3 = .ok (.dup, 1) := by decide +kernel
theorem d26_4 : decode jdk_32_method_3_code 4 = .ok (.aload_n 0, 1) := by decide +kernel
theorem d26_5 : decode jdk_32_method_3_code 5 = .ok (.invokestatic 17, 3) := by decide +kernel
theorem d26_8 : decode jdk_32_method_3_code 8 = .ok (.invokespecial 23, 3) := by decide +kernel
theorem d26_11 : decode jdk_32_method_3_code 11 = .ok (.areturn, 1) := by decide +kernel
def Q_oof (Z : State) (d : Addr) (h0 : Heap) (rv : Option Value) (h : Heap) (L : List Loc) : Prop := ∃ o : Addr, rv = some (.ref o) ∧ Fr Z.heap.size L ∧ Keep h0 h [] ∧ h0.size ≤ o ∧ Exa Z h o "java/util/Optional" ∧ Fld Z h o "java/util/Optional" "value" "Ljava/lang/Object;" (.ref d)
theorem rm_oof (l : Launch) (Z : State) (a0 : Array Value) (hw : ∀ d ∈ tables_1, d.before a0 Z = true) (d : Addr) (h0 : Heap) (O0 : Ext Z.heap h0) :
    Met1 l Z mN28 jdk_32_method_3_code 1 (some (.object "java/util/Optional")) ({ frames := 2, cells := 1, slots := 1, locals := 26 } : Room) #[(.ref d)] h0 (Q_oof Z d h0) := by
  refine Met1.of_body (Ls := #[.val (.ref d)]) pf_26 (fun m => by first | (simp [entryFrame, mkF, argsToLocals, Value.category]; done) | rfl) ?_
  intro p e s m below meth c T0 C X0 e0
  have N0 : Fr Z.heap.size [] := Fr.nil _
  refine Go.newO (pc' := 3) C X0 (tw hw 121 rfl) (tw hw 122 rfl) (tw hw 73 rfl) e0 (by decide) (by decide) d26_0 rfl ?_
  intro T101 h101 b101 X101 e101 g101 E101 A101 D101
  have n_b101 : Z.heap.size ≤ b101 := Nat.le_trans O0.1 (Nat.le_of_eq g101.symm)
  have z_b101 : h0.size ≤ b101 := Nat.le_trans (Nat.le_refl _) (Nat.le_of_eq g101.symm)
  have F101_value : Fld Z h101 b101 "java/util/Optional" "value" "Ljava/lang/Object;" .null := D101 (Or.inr (tw hw 82 rfl)) (ty := (.object "java/lang/Object")) (by decide)
  refine Go.dup (pc' := 4) C X101 d26_3 rfl rfl ?_
  refine Go.aloadN (pc' := 5) C X101 d26_4 rfl rfl rfl ?_
  have O103 : Ext Z.heap h101 := (Ext.trans O0 E101)
  refine Go.callS (y := mN23) (pc' := 8) C X101 (tw hw 123 rfl) (tw hw 124 rfl) (by decide) (rm_rn l Z a0 hw d h101 O103 ) (tw hw 126 rfl) (tw hw 125 rfl) e101 (argsL := [(.ref d)]) (rest := [(.ref b101), (.ref b101)]) (W := 2) rfl rfl pd_6 rfl (Nat.le_of_eq rfl) rfl (by decide) (by decide) (by decide) (by decide) d26_5 rfl ?_
  intro T102 v102 L102 X102 q102
  obtain ⟨rfl, rfl, e102⟩ := q102
  have N102 := Fr.app N0 (Fr.nil _)
  refine Go.callI (y := mN24) (a := b101) (pc' := 11) C X102 rfl (tw hw 127 rfl) (tw hw 128 rfl) (by decide) (rm_oI l Z a0 hw b101 d h101 O103 A101 F101_value n_b101) (tw hw 130 rfl) (tw hw 73 rfl) e102 (argsL := [(.ref d)]) (rest := [(.ref b101)]) (W := 1) rfl rfl pd_7 rfl (Nat.le_of_eq rfl) rfl (by decide) (by decide) (by decide) (by decide) rfl d26_8 rfl ?_
  intro T104 v104 L104 X104 q104
  obtain ⟨rfl, N104q, K104, P104_0⟩ := q104
  have N104 := Fr.app N102 N104q
  have K105 : Keep h0 T104.heap [] := (((Keep.refl h0 []).ext E101).trans K104 (allS (Or.inr z_b101) all0))
  have c106 : Exa Z T104.heap b101 "java/util/Optional" := (Exa.keep A101 K104)
  exact Go.retA C X104 rfl d26_11 rfl rfl rfl ⟨b101, rfl, N104, K105, z_b101, c106, P104_0⟩ (by decide) (by decide)
theorem pf_15 : plainFor mN25 = true := plainFor_of_name (by first | (simp [plainName, overriddenIn]; done) | decide +kernel)
theorem d15_0 : decode jdk_32_method_1_code 0 = .ok (.getstatic 1, 3) := by decide +kernel
theorem d15_3 : decode jdk_32_method_1_code 3 = .ok (.astore_n 0, 1) := by decide +kernel
theorem d15_4 : decode jdk_32_method_1_code 4 = .ok (.aload_n 0, 1) := by decide +kernel
theorem d15_5 : decode jdk_32_method_1_code 5 = .ok (.areturn, 1) := by decide +kernel
def Q_oem (Z : State) (em : Addr) (h0 : Heap) (rv : Option Value) (h : Heap) (L : List Loc) : Prop := rv = some (.ref em) ∧ L = [] ∧ h = h0
theorem rm_oem (l : Launch) (Z : State) (a0 : Array Value) (hw : ∀ d ∈ tables_1, d.before a0 Z = true) (em : Addr) (h0 : Heap) (O0 : Ext Z.heap h0) (SE : Sta Z Z.heap "java/util/Optional" "EMPTY" "Ljava/util/Optional;" (.ref em)) :
    Met1 l Z mN25 jdk_32_method_1_code 1 (some (.object "java/util/Optional")) ({ frames := 0, cells := 0, slots := 0, locals := 0 } : Room) #[] h0 (Q_oem Z em h0) := by
  refine Met1.of_body (Ls := #[.unset]) pf_15 (fun m => by first | (simp [entryFrame, mkF, argsToLocals, Value.category]; done) | rfl) ?_
  intro p e s m below meth c T0 C X0 e0
  have N0 : Fr Z.heap.size [] := Fr.nil _
  refine Go.getS (pc' := 3) (host := "") C X0 (Or.inl (tw hw 75 rfl)) Via.refl e0 (SE.ext O0) d15_0 rfl ?_
  intro T101 X101 e101
  refine Go.astoreN (Ls' := #[.val (.ref em)]) (pc' := 4) C X101 d15_3 rfl rfl rfl ?_
  refine Go.aloadN (pc' := 5) C X101 d15_4 rfl rfl rfl ?_
  exact Go.retA C X101 rfl d15_5 rfl rfl rfl (by rw [e101]; exact ⟨rfl, rfl, rfl⟩) (by decide) (by decide)
theorem pf_16 : plainFor mN27 = true := plainFor_of_name (by first | (simp [plainName, overriddenIn]; done) | decide +kernel)
theorem d16_0 : decode jdk_32_method_6_code 0 = .ok (.aload_n 0, 1) := by decide +kernel
theorem d16_1 : decode jdk_32_method_6_code 1 = .ok (.getfield 13, 3) := by decide +kernel
theorem d16_4 : decode jdk_32_method_6_code 4 = .ok (.ifnull 7, 3) := by decide +kernel
theorem d16_7 : decode jdk_32_method_6_code 7 = .ok (.iconst 1, 1) := by decide +kernel
theorem d16_8 : decode jdk_32_method_6_code 8 = .ok (.goto 4, 3) := by decide +kernel
theorem d16_12 : decode jdk_32_method_6_code 12 = .ok (.ireturn, 1) := by decide +kernel
def Q_op1 (Z : State) (o : Addr) (d : Addr) (h0 : Heap) (rv : Option Value) (h : Heap) (L : List Loc) : Prop := rv = some (.int (1 : Int32)) ∧ L = [] ∧ h = h0
theorem rm_op1 (l : Launch) (Z : State) (a0 : Array Value) (hw : ∀ d ∈ tables_1, d.before a0 Z = true) (o : Addr) (d : Addr) (h0 : Heap) (O0 : Ext Z.heap h0) (F1 : Fld Z h0 o "java/util/Optional" "value" "Ljava/lang/Object;" (.ref d)) :
    Met1 l Z mN27 jdk_32_method_6_code 1 (some .boolean) ({ frames := 0, cells := 0, slots := 0, locals := 0 } : Room) #[(.ref o)] h0 (Q_op1 Z o d h0) := by
  refine Met1.of_body (Ls := #[.val (.ref o)]) pf_16 (fun m => by first | (simp [entryFrame, mkF, argsToLocals, Value.category]; done) | rfl) ?_
  intro p e s m below meth c T0 C X0 e0
  have N0 : Fr Z.heap.size [] := Fr.nil _
  refine Go.aloadN (pc' := 1) C X0 d16_0 rfl rfl rfl ?_
  refine Go.getF (pc' := 4) (host := "") C X0 (Or.inl (tw hw 81 rfl)) Via.refl e0 F1 d16_1 rfl ?_
  intro T101 X101 e101
  refine Go.ifnullNo (pc' := 7) C X101 d16_4 rfl ?_
  refine Go.iconst (z := (1 : Int32)) (pc' := 8) C X101 d16_7 rfl rfl ?_
  refine Go.goto (pc' := 12) C X101 d16_8 (by decide) (by decide) ?_
  exact Go.retN C X101 rfl d16_12 (by simp) (by rw [e101]; exact ⟨rfl, rfl, rfl⟩) (by decide) (by decide)
theorem d16_11 : decode jdk_32_method_6_code 11 = .ok (.iconst 0, 1) := by decide +kernel
def Q_op0 (Z : State) (o : Addr) (h0 : Heap) (rv : Option Value) (h : Heap) (L : List Loc) : Prop := rv = some (.int (0 : Int32)) ∧ L = [] ∧ h = h0
theorem rm_op0 (l : Launch) (Z : State) (a0 : Array Value) (hw : ∀ d ∈ tables_1, d.before a0 Z = true) (o : Addr) (h0 : Heap) (O0 : Ext Z.heap h0) (F1 : Fld Z Z.heap o "java/util/Optional" "value" "Ljava/lang/Object;" .null) :
    Met1 l Z mN27 jdk_32_method_6_code 1 (some .boolean) ({ frames := 0, cells := 0, slots := 0, locals := 0 } : Room) #[(.ref o)] h0 (Q_op0 Z o h0) := by
  refine Met1.of_body (Ls := #[.val (.ref o)]) pf_16 (fun m => by first | (simp [entryFrame, mkF, argsToLocals, Value.category]; done) | rfl) ?_
  intro p e s m below meth c T0 C X0 e0
  have N0 : Fr Z.heap.size [] := Fr.nil _
  refine Go.aloadN (pc' := 1) C X0 d16_0 rfl rfl rfl ?_
  refine Go.getF (pc' := 4) (host := "") C X0 (Or.inl (tw hw 81 rfl)) Via.refl e0 (F1.ext O0) d16_1 rfl ?_
  intro T101 X101 e101
  refine Go.ifnullYes (pc' := 11) C X101 d16_4 (by decide) (by decide) ?_
  refine Go.iconst (z := (0 : Int32)) (pc' := 12) C X101 d16_11 rfl rfl ?_
  exact Go.retN C X101 rfl d16_12 (by simp) (by rw [e101]; exact ⟨rfl, rfl, rfl⟩) (by decide) (by decide)
theorem pf_29 : plainFor mN26 = true := plainFor_of_name (by first | (simp [plainName, overriddenIn]; done) | decide +kernel)
theorem d29_0 : decode jdk_32_method_5_code 0 = .ok (.aload_n 0, 1) := by decide +kernel
theorem d29_1 : decode jdk_32_method_5_code 1 = .ok (.getfield 13, 3) := by decide +kernel
theorem d29_4 : decode jdk_32_method_5_code 4 = .ok (.ifnonnull 13, 3) := by decide +kernel
theorem d29_17 : decode jdk_32_method_5_code 17 = .ok (.aload_n 0, 1) := by decide +kernel
theorem d29_18 : decode jdk_32_method_5_code 18 = .ok (.getfield 13, 3) := by decide +kernel
theorem d29_21 : decode jdk_32_method_5_code 21 = .ok (.areturn, 1) := by decide +kernel
def Q_oge (Z : State) (o : Addr) (d : Addr) (h0 : Heap) (rv : Option Value) (h : Heap) (L : List Loc) : Prop := rv = some (.ref d) ∧ L = [] ∧ h = h0
theorem rm_oge (l : Launch) (Z : State) (a0 : Array Value) (hw : ∀ d ∈ tables_1, d.before a0 Z = true) (o : Addr) (d : Addr) (h0 : Heap) (O0 : Ext Z.heap h0) (F1 : Fld Z h0 o "java/util/Optional" "value" "Ljava/lang/Object;" (.ref d)) :
    Met1 l Z mN26 jdk_32_method_5_code 1 (some (.object "java/lang/Object")) ({ frames := 0, cells := 0, slots := 0, locals := 0 } : Room) #[(.ref o)] h0 (Q_oge Z o d h0) := by
  refine Met1.of_body (Ls := #[.val (.ref o)]) pf_29 (fun m => by first | (simp [entryFrame, mkF, argsToLocals, Value.category]; done) | rfl) ?_
  intro p e s m below meth c T0 C X0 e0
  have N0 : Fr Z.heap.size [] := Fr.nil _
  refine Go.aloadN (pc' := 1) C X0 d29_0 rfl rfl rfl ?_
  refine Go.getF (pc' := 4) (host := "") C X0 (Or.inl (tw hw 81 rfl)) Via.refl e0 F1 d29_1 rfl ?_
  intro T101 X101 e101
  refine Go.ifnonnullYes (pc' := 17) C X101 d29_4 (by decide) (by decide) ?_
  refine Go.aloadN (pc' := 18) C X101 d29_17 rfl rfl rfl ?_
  refine Go.getF (pc' := 21) (host := "") C X101 (Or.inl (tw hw 81 rfl)) Via.refl e101 F1 d29_18 rfl ?_
  intro T102 X102 e102
  exact Go.retA C X102 rfl d29_21 rfl rfl rfl (by rw [e102]; exact ⟨rfl, rfl, rfl⟩) (by decide) (by decide)
theorem pd_8 : parseMethodDescriptor "([C)V" = some ⟨[(.array .char)], none⟩ := by decide +kernel
theorem pf_2 : plainFor mN33 = true := plainFor_of_name (by first | (simp [plainName, overriddenIn]; done) | decide +kernel)
theorem d2_0 : decode method_4_code 0 = .ok (.iload 5, 2) := by decide +kernel
theorem d2_2 : decode method_4_code 2 = .ok (.iload 4, 2) := by decide +kernel
theorem d2_4 : decode method_4_code 4 = .ok (.isub, 1) := by decide +kernel
theorem d2_5 : decode method_4_code 5 = .ok (.istore 6, 2) := by decide +kernel
theorem d2_7 : decode method_4_code 7 = .ok (.iload 6, 2) := by decide +kernel
theorem d2_9 : decode method_4_code 9 = .ok (.newarray .char, 2) := by decide +kernel
theorem d2_11 : decode method_4_code 11 = .ok (.astore 7, 2) := by decide +kernel
theorem d2_13 : decode method_4_code 13 = .ok (.iload 6, 2) := by decide +kernel
theorem d2_15 : decode method_4_code 15 = .ok (.ifCond .le 16, 3) := by decide +kernel
theorem d2_31 : decode method_4_code 31 = .ok (.iload 6, 2) := by decide +kernel
theorem d2_33 : decode method_4_code 33 = .ok (.iconst 1, 1) := by decide +kernel
theorem d2_34 : decode method_4_code 34 = .ok (.if_icmp .le 18, 3) := by decide +kernel
theorem d2_52 : decode method_4_code 52 = .ok (.iload 6, 2) := by decide +kernel
theorem d2_54 : decode method_4_code 54 = .ok (.iconst 2, 1) := by decide +kernel
theorem d2_55 : decode method_4_code 55 = .ok (.if_icmp .le 18, 3) := by decide +kernel
theorem d2_73 : decode method_4_code 73 = .ok (.iload 6, 2) := by decide +kernel
theorem d2_75 : decode method_4_code 75 = .ok (.iconst 3, 1) := by decide +kernel
theorem d2_76 : decode method_4_code 76 = .ok (.if_icmp .le 18, 3) := by decide +kernel
theorem d2_94 : decode method_4_code 94 = .ok (.new 13, 3) := by decide +kernel
theorem d2_97 : decode method_4_code 97 = .ok (.dup, 1) := by decide +kernel
theorem d2_98 : decode method_4_code 98 = .ok (.aload 7, 2) := by decide +kernel
theorem d2_100 : decode method_4_code 100 = .ok (.invokespecial 15, 3) := by decide +kernel
theorem d2_103 : decode method_4_code 103 = .ok (.areturn, 1) := by decide +kernel
def Q_st00 (Z : State) (x0 : Int32) (x1 : Int32) (x2 : Int32) (x3 : Int32) (h0 : Heap) (rv : Option Value) (h : Heap) (L : List Loc) : Prop := ∃ r : Addr, ∃ v : Addr, ∃ kv : ClassId, rv = some (.ref r) ∧ Fr Z.heap.size L ∧ Keep h0 h [] ∧ h0.size ≤ r ∧ Exa Z h r "java/lang/String" ∧ Fld Z h r "java/lang/String" "value" "[B" (.ref v) ∧ Fld Z h r "java/lang/String" "coder" "B" (.int (0 : Int32)) ∧ AL Z h v kv .byte (by8 [])
theorem rm_st00 (l : Launch) (Z : State) (a0 : Array Value) (hw : ∀ d ∈ tables_1, d.before a0 Z = true) (x0 : Int32) (x1 : Int32) (x2 : Int32) (x3 : Int32) (h0 : Heap) (O0 : Ext Z.heap h0) :
    Met1H consts_1 [] l Z mN33 method_4_code 8 (some (.object "java/lang/String")) ({ frames := 3, cells := 6, slots := 12, locals := 43 } : Room) #[(.int x0), (.int x1), (.int x2), (.int x3), (.int (0 : Int32)), (.int (0 : Int32))] h0 (Q_st00 Z x0 x1 x2 x3 h0) := by
  refine Met1H.of_body (Ls := #[.val (.int x0), .val (.int x1), .val (.int x2), .val (.int x3), .val (.int (0 : Int32)), .val (.int (0 : Int32)), .unset, .unset]) pf_2 (fun m => by first | (simp [entryFrame, mkF, argsToLocals, Value.category]; done) | rfl) ?_
  intro p e s m below meth c T0 C X0 e0 hH0 hsf0
  have Hr0 := CHr.refl hH0
  have N0 : Fr Z.heap.size [] := Fr.nil _
  have Si0 : Sin s s h0 := Sin.start s h0
  refine Go.iload (pc' := 2) C X0 d2_0 rfl rfl ?_
  refine Go.iload (pc' := 4) C X0 d2_2 rfl rfl ?_
  refine Go.isub (pc' := 5) C X0 d2_4 rfl ?_
  rw [show ((0 : Int32) - (0 : Int32)) = (0 : Int32) from by decide]
  refine Go.istore (Ls' := #[.val (.int x0), .val (.int x1), .val (.int x2), .val (.int x3), .val (.int (0 : Int32)), .val (.int (0 : Int32)), .val (.int (0 : Int32)), .unset]) (pc' := 7) C X0 d2_5 rfl rfl ?_
  refine Go.iload (pc' := 9) C X0 d2_7 rfl rfl ?_
  refine Go.newP (aty := .char) (cap := 0) (vs := []) (ad := "[C") (pc' := 11) C X0 (by decide) (tw hw 8 rfl) e0 (by decide) (by decide) (by decide) (by decide) (by decide) rfl d2_9 rfl ?_
  intro T101 h101 b101 k101 X101 e101 g101 E101 A101 Ea101
  have Hr102 := CHr.trans Hr0 (CHr.ext E101 Hr0.1)
  have n_b101 : Z.heap.size ≤ b101 := Nat.le_trans O0.1 (Nat.le_of_eq g101.symm)
  have z_b101 : h0.size ≤ b101 := Nat.le_trans (Nat.le_refl _) (Nat.le_of_eq g101.symm)
  have s_b101 : Safe Z consts_1 s.vm h101 b101 := Safe.ext E101 Hr0.1 (Safe.new (Nat.le_of_eq g101.symm))
  have A101 : AL Z h101 b101 k101 .char [] := A101
  refine Go.astore (Ls' := #[.val (.int x0), .val (.int x1), .val (.int x2), .val (.int x3), .val (.int (0 : Int32)), .val (.int (0 : Int32)), .val (.int (0 : Int32)), .val (.ref b101)]) (pc' := 13) C X101 d2_11 rfl rfl rfl ?_
  refine Go.iload (pc' := 15) C X101 d2_13 rfl rfl ?_
  refine Go.ifYes (pc' := 31) C X101 d2_15 ((if0 _ _).trans (flt (x := (0 : Int32)) (y := (0 : Int32)) (by decide)).2.2.2) (by decide) (by decide) ?_
  refine Go.iload (pc' := 33) C X101 d2_31 rfl rfl ?_
  refine Go.iconst (z := (1 : Int32)) (pc' := 34) C X101 d2_33 rfl rfl ?_
  refine Go.icmpYes (pc' := 52) C X101 d2_34 (flt (x := (1 : Int32)) (y := (0 : Int32)) (by decide)).2.2.2 (by decide) (by decide) ?_
  refine Go.iload (pc' := 54) C X101 d2_52 rfl rfl ?_
  refine Go.iconst (z := (2 : Int32)) (pc' := 55) C X101 d2_54 rfl rfl ?_
  refine Go.icmpYes (pc' := 73) C X101 d2_55 (flt (x := (2 : Int32)) (y := (0 : Int32)) (by decide)).2.2.2 (by decide) (by decide) ?_
  refine Go.iload (pc' := 75) C X101 d2_73 rfl rfl ?_
  refine Go.iconst (z := (3 : Int32)) (pc' := 76) C X101 d2_75 rfl rfl ?_
  refine Go.icmpYes (pc' := 94) C X101 d2_76 (flt (x := (3 : Int32)) (y := (0 : Int32)) (by decide)).2.2.2 (by decide) (by decide) ?_
  have O108 : Ext Z.heap h101 := (Ext.trans O0 E101)
  refine Go.newO (pc' := 97) C X101 (tw hw 9 rfl) (tw hw 10 rfl) (tw hw 11 rfl) e101 (by decide) (by decide) d2_94 rfl ?_
  intro T107 h107 b107 X107 e107 g107 E107 A107 D107
  have Hr109 := CHr.trans Hr102 (CHr.ext E107 Hr102.1)
  have n_b107 : Z.heap.size ≤ b107 := Nat.le_trans O108.1 (Nat.le_of_eq g107.symm)
  have z_b107 : h0.size ≤ b107 := Nat.le_trans (Nat.le_trans (Nat.le_refl _) E101.1) (Nat.le_of_eq g107.symm)
  have s_b107 : Safe Z consts_1 s.vm h107 b107 := Safe.ext E107 Hr102.1 (Safe.new (Nat.le_of_eq g107.symm))
  have F107_value : Fld Z h107 b107 "java/lang/String" "value" "[B" .null := D107 (Or.inr (tw hw 24 rfl)) (ty := (.array .byte)) (by decide)
  have F107_coder : Fld Z h107 b107 "java/lang/String" "coder" "B" (.int (0 : Int32)) := D107 (Or.inr (tw hw 25 rfl)) (ty := .byte) (by decide)
  refine Go.dup (pc' := 98) C X107 d2_97 rfl rfl ?_
  refine Go.aload (pc' := 100) C X107 d2_98 rfl rfl rfl ?_
  have c111 : AL Z h107 b101 k101 .char [] := (AL.ext E107 A101)
  have O112 : Ext Z.heap h107 := (Ext.trans O108 E107)
  have Si113 : Sin s s h107 := Sin.mono Si0 (Nat.le_trans (Nat.le_trans (Nat.le_refl _) E101.1) E107.1)
  refine Go.callIH (y := mN2) (a := b107) (pc' := 103) C X107 Si113 (EWc hw) Hr109.1 rfl (tw hw 12 rfl) (tw hw 13 rfl) (by decide) (allS ⟨Nat.lt_of_lt_of_le A107.lt (Nat.le_refl _), s_b107⟩ all0) (rm_sI1z l Z a0 hw b107 b101 k101 h107 O112 A107 F107_value F107_coder c111 n_b107) (tw hw 14 rfl) (tw hw 11 rfl) e107 (argsL := [(.ref b101)]) (rest := [(.ref b107)]) (W := 1) rfl rfl pd_8 rfl (Nat.le_of_eq rfl) rfl (by decide) (by decide) (by decide) (by decide) rfl d2_100 rfl ?_
  intro T110 v110 L110 sC110 C110 X110 Si110 hR110 q110
  obtain ⟨v_110, kv_110, rfl, N110q, K110, P110_0, P110_1, P110_2⟩ := q110
  have N110 := Fr.app N0 N110q
  have Hr114 := CHr.trans Hr109 hR110
  have K115 : Keep h0 T110.heap [] := ((((Keep.refl h0 []).ext E101).ext E107).trans K110 (allS (Or.inr z_b107) all0))
  have c116 : Exa Z T110.heap b107 "java/lang/String" := (Exa.keep A107 K110)
  exact Go.retAH C110 X110 Si110 (EWc hw) Hr114 rfl d2_103 rfl rfl rfl ⟨b107, v_110, kv_110, rfl, N110, K115, z_b107, c116, P110_0, P110_1, P110_2⟩ (by decide) (by decide)
theorem pd_9 : parseMethodDescriptor "(CCCCI)C" = some ⟨[.char, .char, .char, .char, .int], some .char⟩ := by decide +kernel
theorem d2_18 : decode method_4_code 18 = .ok (.aload 7, 2) := by decide +kernel
theorem d2_20 : decode method_4_code 20 = .ok (.iconst 0, 1) := by decide +kernel
theorem d2_21 : decode method_4_code 21 = .ok (.iload_n 0, 1) := by decide +kernel
theorem d2_22 : decode method_4_code 22 = .ok (.iload_n 1, 1) := by decide +kernel
theorem d2_23 : decode method_4_code 23 = .ok (.iload_n 2, 1) := by decide +kernel
theorem d2_24 : decode method_4_code 24 = .ok (.iload_n 3, 1) := by decide +kernel
theorem d2_25 : decode method_4_code 25 = .ok (.iload 4, 2) := by decide +kernel
theorem d2_27 : decode method_4_code 27 = .ok (.invokestatic 7, 3) := by decide +kernel
theorem d2_30 : decode method_4_code 30 = .ok (.castore, 1) := by decide +kernel
def Q_st01 (Z : State) (x0 : Int32) (x1 : Int32) (x2 : Int32) (x3 : Int32) (cP : Int32) (h0 : Heap) (rv : Option Value) (h : Heap) (L : List Loc) : Prop := ∃ r : Addr, ∃ v : Addr, ∃ kv : ClassId, rv = some (.ref r) ∧ Fr Z.heap.size L ∧ Keep h0 h [] ∧ h0.size ≤ r ∧ h0.size ≤ v ∧ Exa Z h r "java/lang/String" ∧ Fld Z h r "java/lang/String" "value" "[B" (.ref v) ∧ Fld Z h r "java/lang/String" "coder" "B" (.int (0 : Int32)) ∧ AL Z h v kv .byte (by8 [x0])
theorem rm_st01 (l : Launch) (Z : State) (a0 : Array Value) (hw : ∀ d ∈ tables_1, d.before a0 Z = true) (x0 : Int32) (x1 : Int32) (x2 : Int32) (x3 : Int32) (cP : Int32) (h0 : Heap) (O0 : Ext Z.heap h0) (SC : Sta Z Z.heap "java/lang/String" "COMPACT_STRINGS" "Z" (.int cP)) (hP : ¬ cP = (0 : Int32)) (hx0 : 0 ≤ x0.toInt ∧ x0.toInt ≤ 255) (hx1 : 0 ≤ x1.toInt ∧ x1.toInt ≤ 255) (hx2 : 0 ≤ x2.toInt ∧ x2.toInt ≤ 255) (hx3 : 0 ≤ x3.toInt ∧ x3.toInt ≤ 255) :
    Met1 l Z mN33 method_4_code 8 (some (.object "java/lang/String")) ({ frames := 4, cells := 3, slots := 9, locals := 66 } : Room) #[(.int x0), (.int x1), (.int x2), (.int x3), (.int (0 : Int32)), (.int (1 : Int32))] h0 (Q_st01 Z x0 x1 x2 x3 cP h0) := by
  refine Met1.of_body (Ls := #[.val (.int x0), .val (.int x1), .val (.int x2), .val (.int x3), .val (.int (0 : Int32)), .val (.int (1 : Int32)), .unset, .unset]) pf_2 (fun m => by first | (simp [entryFrame, mkF, argsToLocals, Value.category]; done) | rfl) ?_
  intro p e s m below meth c T0 C X0 e0
  have N0 : Fr Z.heap.size [] := Fr.nil _
  refine Go.iload (pc' := 2) C X0 d2_0 rfl rfl ?_
  refine Go.iload (pc' := 4) C X0 d2_2 rfl rfl ?_
  refine Go.isub (pc' := 5) C X0 d2_4 rfl ?_
  rw [show ((1 : Int32) - (0 : Int32)) = (1 : Int32) from by decide]
  refine Go.istore (Ls' := #[.val (.int x0), .val (.int x1), .val (.int x2), .val (.int x3), .val (.int (0 : Int32)), .val (.int (1 : Int32)), .val (.int (1 : Int32)), .unset]) (pc' := 7) C X0 d2_5 rfl rfl ?_
  refine Go.iload (pc' := 9) C X0 d2_7 rfl rfl ?_
  refine Go.newP (aty := .char) (cap := 1) (vs := [(.int (0 : Int32))]) (ad := "[C") (pc' := 11) C X0 (by decide) (tw hw 8 rfl) e0 (by decide) (by decide) (by decide) (by decide) (by decide) rfl d2_9 rfl ?_
  intro T101 h101 b101 k101 X101 e101 g101 E101 A101 Ea101
  have n_b101 : Z.heap.size ≤ b101 := Nat.le_trans O0.1 (Nat.le_of_eq g101.symm)
  have z_b101 : h0.size ≤ b101 := Nat.le_trans (Nat.le_refl _) (Nat.le_of_eq g101.symm)
  have A101 : AL Z h101 b101 k101 .char [(.int (0 : Int32))] := A101
  refine Go.astore (Ls' := #[.val (.int x0), .val (.int x1), .val (.int x2), .val (.int x3), .val (.int (0 : Int32)), .val (.int (1 : Int32)), .val (.int (1 : Int32)), .val (.ref b101)]) (pc' := 13) C X101 d2_11 rfl rfl rfl ?_
  refine Go.iload (pc' := 15) C X101 d2_13 rfl rfl ?_
  refine Go.ifNo (pc' := 18) C X101 d2_15 ((if0 _ _).trans (tlt (x := (0 : Int32)) (y := (1 : Int32)) (by decide)).2.2.2) rfl ?_
  refine Go.aload (pc' := 20) C X101 d2_18 rfl rfl rfl ?_
  refine Go.iconst (z := (0 : Int32)) (pc' := 21) C X101 d2_20 rfl rfl ?_
  refine Go.iloadN (pc' := 22) C X101 d2_21 rfl rfl ?_
  refine Go.iloadN (pc' := 23) C X101 d2_22 rfl rfl ?_
  refine Go.iloadN (pc' := 24) C X101 d2_23 rfl rfl ?_
  refine Go.iloadN (pc' := 25) C X101 d2_24 rfl rfl ?_
  refine Go.iload (pc' := 27) C X101 d2_25 rfl rfl ?_
  have O104 : Ext Z.heap h101 := (Ext.trans O0 E101)
  refine Go.callS (y := mN32) (pc' := 30) C X101 (tw hw 83 rfl) (tw hw 84 rfl) (by decide) (rm_pk0 l Z a0 hw x0 x1 x2 x3 h101 O104 hx0) (tw hw 85 rfl) (tw hw 3 rfl) e101 (argsL := [(.int x0), (.int x1), (.int x2), (.int x3), (.int (0 : Int32))]) (rest := [(.int (0 : Int32)), (.ref b101)]) (W := 2) rfl rfl pd_9 rfl (Nat.le_of_eq rfl) rfl (by decide) (by decide) (by decide) (by decide) d2_27 rfl ?_
  intro T103 v103 L103 X103 q103
  obtain ⟨rfl, rfl, e103⟩ := q103
  have N103 := Fr.app N0 (Fr.nil _)
  refine Go.stC (i := 0) (x' := x0) (vs' := [(.int x0)]) (pc' := 31) C X103 e103 A101 (by decide) (by decide) (by simp) (narcr hx0) rfl d2_30 rfl ?_
  intro T105 h105 X105 e105 W105 A105
  have N105 := Fr.snoc X105 N103 n_b101
  refine Go.iload (pc' := 33) C X105 d2_31 rfl rfl ?_
  refine Go.iconst (z := (1 : Int32)) (pc' := 34) C X105 d2_33 rfl rfl ?_
  refine Go.icmpYes (pc' := 52) C X105 d2_34 (flt (x := (1 : Int32)) (y := (1 : Int32)) (by decide)).2.2.2 (by decide) (by decide) ?_
  refine Go.iload (pc' := 54) C X105 d2_52 rfl rfl ?_
  refine Go.iconst (z := (2 : Int32)) (pc' := 55) C X105 d2_54 rfl rfl ?_
  refine Go.icmpYes (pc' := 73) C X105 d2_55 (flt (x := (2 : Int32)) (y := (1 : Int32)) (by decide)).2.2.2 (by decide) (by decide) ?_
  refine Go.iload (pc' := 75) C X105 d2_73 rfl rfl ?_
  refine Go.iconst (z := (3 : Int32)) (pc' := 76) C X105 d2_75 rfl rfl ?_
  refine Go.icmpYes (pc' := 94) C X105 d2_76 (flt (x := (3 : Int32)) (y := (1 : Int32)) (by decide)).2.2.2 (by decide) (by decide) ?_
  have O110 : Ext Z.heap h105 := (Ext.wr O104 W105 n_b101)
  refine Go.newO (pc' := 97) C X105 (tw hw 9 rfl) (tw hw 10 rfl) (tw hw 11 rfl) e105 (by decide) (by decide) d2_94 rfl ?_
  intro T109 h109 b109 X109 e109 g109 E109 A109 D109
  have n_b109 : Z.heap.size ≤ b109 := Nat.le_trans O110.1 (Nat.le_of_eq g109.symm)
  have z_b109 : h0.size ≤ b109 := Nat.le_trans (Nat.le_trans (Nat.le_trans (Nat.le_refl _) E101.1) (Nat.le_of_eq W105.size.symm)) (Nat.le_of_eq g109.symm)
  have F109_value : Fld Z h109 b109 "java/lang/String" "value" "[B" .null := D109 (Or.inr (tw hw 24 rfl)) (ty := (.array .byte)) (by decide)
  have F109_coder : Fld Z h109 b109 "java/lang/String" "coder" "B" (.int (0 : Int32)) := D109 (Or.inr (tw hw 25 rfl)) (ty := .byte) (by decide)
  refine Go.dup (pc' := 98) C X109 d2_97 rfl rfl ?_
  refine Go.aload (pc' := 100) C X109 d2_98 rfl rfl rfl ?_
  have c112 : AL Z h109 b101 k101 .char [(.int x0)] := (AL.ext E109 A105)
  have O113 : Ext Z.heap h109 := (Ext.trans O110 E109)
  refine Go.callI (y := mN2) (a := b109) (pc' := 103) C X109 rfl (tw hw 12 rfl) (tw hw 13 rfl) (by decide) (rm_sI1 l Z a0 hw b109 b101 k101 [x0] cP h109 O113 A109 F109_value F109_coder (show AL Z h109 b101 k101 .char (ch16 [x0]) from c112) SC (all1 hx0) (show (1 : Nat) < 2 ^ 31 from by decide) (show (1 : Nat) ≤ 4 from by decide) (show ¬ (1 : Nat).toInt32 = (0 : Int32) from by decide) hP n_b109) (tw hw 14 rfl) (tw hw 11 rfl) e109 (argsL := [(.ref b101)]) (rest := [(.ref b109)]) (W := 1) rfl rfl pd_8 rfl (Nat.le_of_eq rfl) rfl (by decide) (by decide) (by decide) (by decide) rfl d2_100 rfl ?_
  intro T111 v111 L111 X111 q111
  obtain ⟨v_111, kv_111, rfl, N111q, K111, B111_0, P111_0, P111_1, P111_2⟩ := q111
  have N111 := Fr.app N105 N111q
  have n_v_111 : Z.heap.size ≤ v_111 := Nat.le_trans O113.1 B111_0
  have z_v_111 : h0.size ≤ v_111 := Nat.le_trans (Nat.le_trans (Nat.le_trans (Nat.le_trans (Nat.le_refl _) E101.1) (Nat.le_of_eq W105.size.symm)) E109.1) B111_0
  have K114 : Keep h0 T111.heap [] := (((((Keep.refl h0 []).ext E101).wr W105 (Or.inr z_b101)).ext E109).trans K111 (allS (Or.inr z_b109) all0))
  have c115 : Exa Z T111.heap b109 "java/lang/String" := (Exa.keep A109 K111)
  exact Go.retA C X111 rfl d2_103 rfl rfl rfl ⟨b109, v_111, kv_111, rfl, N111, K114, z_b109, z_v_111, c115, P111_0, P111_1, P111_2⟩ (by decide) (by decide)
def Q_st11 (Z : State) (x0 : Int32) (x1 : Int32) (x2 : Int32) (x3 : Int32) (h0 : Heap) (rv : Option Value) (h : Heap) (L : List Loc) : Prop := ∃ r : Addr, ∃ v : Addr, ∃ kv : ClassId, rv = some (.ref r) ∧ Fr Z.heap.size L ∧ Keep h0 h [] ∧ h0.size ≤ r ∧ Exa Z h r "java/lang/String" ∧ Fld Z h r "java/lang/String" "value" "[B" (.ref v) ∧ Fld Z h r "java/lang/String" "coder" "B" (.int (0 : Int32)) ∧ AL Z h v kv .byte (by8 [])
theorem rm_st11 (l : Launch) (Z : State) (a0 : Array Value) (hw : ∀ d ∈ tables_1, d.before a0 Z = true) (x0 : Int32) (x1 : Int32) (x2 : Int32) (x3 : Int32) (h0 : Heap) (O0 : Ext Z.heap h0) :
    Met1H consts_1 [] l Z mN33 method_4_code 8 (some (.object "java/lang/String")) ({ frames := 3, cells := 6, slots := 12, locals := 43 } : Room) #[(.int x0), (.int x1), (.int x2), (.int x3), (.int (1 : Int32)), (.int (1 : Int32))] h0 (Q_st11 Z x0 x1 x2 x3 h0) := by
  refine Met1H.of_body (Ls := #[.val (.int x0), .val (.int x1), .val (.int x2), .val (.int x3), .val (.int (1 : Int32)), .val (.int (1 : Int32)), .unset, .unset]) pf_2 (fun m => by first | (simp [entryFrame, mkF, argsToLocals, Value.category]; done) | rfl) ?_
  intro p e s m below meth c T0 C X0 e0 hH0 hsf0
  have Hr0 := CHr.refl hH0
  have N0 : Fr Z.heap.size [] := Fr.nil _
  have Si0 : Sin s s h0 := Sin.start s h0
  refine Go.iload (pc' := 2) C X0 d2_0 rfl rfl ?_
  refine Go.iload (pc' := 4) C X0 d2_2 rfl rfl ?_
  refine Go.isub (pc' := 5) C X0 d2_4 rfl ?_
  rw [show ((1 : Int32) - (1 : Int32)) = (0 : Int32) from by decide]
  refine Go.istore (Ls' := #[.val (.int x0), .val (.int x1), .val (.int x2), .val (.int x3), .val (.int (1 : Int32)), .val (.int (1 : Int32)), .val (.int (0 : Int32)), .unset]) (pc' := 7) C X0 d2_5 rfl rfl ?_
  refine Go.iload (pc' := 9) C X0 d2_7 rfl rfl ?_
  refine Go.newP (aty := .char) (cap := 0) (vs := []) (ad := "[C") (pc' := 11) C X0 (by decide) (tw hw 8 rfl) e0 (by decide) (by decide) (by decide) (by decide) (by decide) rfl d2_9 rfl ?_
  intro T101 h101 b101 k101 X101 e101 g101 E101 A101 Ea101
  have Hr102 := CHr.trans Hr0 (CHr.ext E101 Hr0.1)
  have n_b101 : Z.heap.size ≤ b101 := Nat.le_trans O0.1 (Nat.le_of_eq g101.symm)
  have z_b101 : h0.size ≤ b101 := Nat.le_trans (Nat.le_refl _) (Nat.le_of_eq g101.symm)
  have s_b101 : Safe Z consts_1 s.vm h101 b101 := Safe.ext E101 Hr0.1 (Safe.new (Nat.le_of_eq g101.symm))
  have A101 : AL Z h101 b101 k101 .char [] := A101
  refine Go.astore (Ls' := #[.val (.int x0), .val (.int x1), .val (.int x2), .val (.int x3), .val (.int (1 : Int32)), .val (.int (1 : Int32)), .val (.int (0 : Int32)), .val (.ref b101)]) (pc' := 13) C X101 d2_11 rfl rfl rfl ?_
  refine Go.iload (pc' := 15) C X101 d2_13 rfl rfl ?_
  refine Go.ifYes (pc' := 31) C X101 d2_15 ((if0 _ _).trans (flt (x := (0 : Int32)) (y := (0 : Int32)) (by decide)).2.2.2) (by decide) (by decide) ?_
  refine Go.iload (pc' := 33) C X101 d2_31 rfl rfl ?_
  refine Go.iconst (z := (1 : Int32)) (pc' := 34) C X101 d2_33 rfl rfl ?_
  refine Go.icmpYes (pc' := 52) C X101 d2_34 (flt (x := (1 : Int32)) (y := (0 : Int32)) (by decide)).2.2.2 (by decide) (by decide) ?_
  refine Go.iload (pc' := 54) C X101 d2_52 rfl rfl ?_
  refine Go.iconst (z := (2 : Int32)) (pc' := 55) C X101 d2_54 rfl rfl ?_
  refine Go.icmpYes (pc' := 73) C X101 d2_55 (flt (x := (2 : Int32)) (y := (0 : Int32)) (by decide)).2.2.2 (by decide) (by decide) ?_
  refine Go.iload (pc' := 75) C X101 d2_73 rfl rfl ?_
  refine Go.iconst (z := (3 : Int32)) (pc' := 76) C X101 d2_75 rfl rfl ?_
  refine Go.icmpYes (pc' := 94) C X101 d2_76 (flt (x := (3 : Int32)) (y := (0 : Int32)) (by decide)).2.2.2 (by decide) (by decide) ?_
  have O108 : Ext Z.heap h101 := (Ext.trans O0 E101)
  refine Go.newO (pc' := 97) C X101 (tw hw 9 rfl) (tw hw 10 rfl) (tw hw 11 rfl) e101 (by decide) (by decide) d2_94 rfl ?_
  intro T107 h107 b107 X107 e107 g107 E107 A107 D107
  have Hr109 := CHr.trans Hr102 (CHr.ext E107 Hr102.1)
  have n_b107 : Z.heap.size ≤ b107 := Nat.le_trans O108.1 (Nat.le_of_eq g107.symm)
  have z_b107 : h0.size ≤ b107 := Nat.le_trans (Nat.le_trans (Nat.le_refl _) E101.1) (Nat.le_of_eq g107.symm)
  have s_b107 : Safe Z consts_1 s.vm h107 b107 := Safe.ext E107 Hr102.1 (Safe.new (Nat.le_of_eq g107.symm))
  have F107_value : Fld Z h107 b107 "java/lang/String" "value" "[B" .null := D107 (Or.inr (tw hw 24 rfl)) (ty := (.array .byte)) (by decide)
  have F107_coder : Fld Z h107 b107 "java/lang/String" "coder" "B" (.int (0 : Int32)) := D107 (Or.inr (tw hw 25 rfl)) (ty := .byte) (by decide)
  refine Go.dup (pc' := 98) C X107 d2_97 rfl rfl ?_
  refine Go.aload (pc' := 100) C X107 d2_98 rfl rfl rfl ?_
  have c111 : AL Z h107 b101 k101 .char [] := (AL.ext E107 A101)
  have O112 : Ext Z.heap h107 := (Ext.trans O108 E107)
  have Si113 : Sin s s h107 := Sin.mono Si0 (Nat.le_trans (Nat.le_trans (Nat.le_refl _) E101.1) E107.1)
  refine Go.callIH (y := mN2) (a := b107) (pc' := 103) C X107 Si113 (EWc hw) Hr109.1 rfl (tw hw 12 rfl) (tw hw 13 rfl) (by decide) (allS ⟨Nat.lt_of_lt_of_le A107.lt (Nat.le_refl _), s_b107⟩ all0) (rm_sI1z l Z a0 hw b107 b101 k101 h107 O112 A107 F107_value F107_coder c111 n_b107) (tw hw 14 rfl) (tw hw 11 rfl) e107 (argsL := [(.ref b101)]) (rest := [(.ref b107)]) (W := 1) rfl rfl pd_8 rfl (Nat.le_of_eq rfl) rfl (by decide) (by decide) (by decide) (by decide) rfl d2_100 rfl ?_
  intro T110 v110 L110 sC110 C110 X110 Si110 hR110 q110
  obtain ⟨v_110, kv_110, rfl, N110q, K110, P110_0, P110_1, P110_2⟩ := q110
  have N110 := Fr.app N0 N110q
  have Hr114 := CHr.trans Hr109 hR110
  have K115 : Keep h0 T110.heap [] := ((((Keep.refl h0 []).ext E101).ext E107).trans K110 (allS (Or.inr z_b107) all0))
  have c116 : Exa Z T110.heap b107 "java/lang/String" := (Exa.keep A107 K110)
  exact Go.retAH C110 X110 Si110 (EWc hw) Hr114 rfl d2_103 rfl rfl rfl ⟨b107, v_110, kv_110, rfl, N110, K115, z_b107, c116, P110_0, P110_1, P110_2⟩ (by decide) (by decide)
theorem d2_37 : decode method_4_code 37 = .ok (.aload 7, 2) := by decide +kernel
theorem d2_39 : decode method_4_code 39 = .ok (.iconst 1, 1) := by decide +kernel
theorem d2_40 : decode method_4_code 40 = .ok (.iload_n 0, 1) := by decide +kernel
theorem d2_41 : decode method_4_code 41 = .ok (.iload_n 1, 1) := by decide +kernel
theorem d2_42 : decode method_4_code 42 = .ok (.iload_n 2, 1) := by decide +kernel
theorem d2_43 : decode method_4_code 43 = .ok (.iload_n 3, 1) := by decide +kernel
theorem d2_44 : decode method_4_code 44 = .ok (.iload 4, 2) := by decide +kernel
theorem d2_46 : decode method_4_code 46 = .ok (.iconst 1, 1) := by decide +kernel
theorem d2_47 : decode method_4_code 47 = .ok (.iadd, 1) := by decide +kernel
theorem d2_48 : decode method_4_code 48 = .ok (.invokestatic 7, 3) := by decide +kernel
theorem d2_51 : decode method_4_code 51 = .ok (.castore, 1) := by decide +kernel
def Q_st02 (Z : State) (x0 : Int32) (x1 : Int32) (x2 : Int32) (x3 : Int32) (cP : Int32) (h0 : Heap) (rv : Option Value) (h : Heap) (L : List Loc) : Prop := ∃ r : Addr, ∃ v : Addr, ∃ kv : ClassId, rv = some (.ref r) ∧ Fr Z.heap.size L ∧ Keep h0 h [] ∧ h0.size ≤ r ∧ h0.size ≤ v ∧ Exa Z h r "java/lang/String" ∧ Fld Z h r "java/lang/String" "value" "[B" (.ref v) ∧ Fld Z h r "java/lang/String" "coder" "B" (.int (0 : Int32)) ∧ AL Z h v kv .byte (by8 [x0, x1])
theorem rm_st02 (l : Launch) (Z : State) (a0 : Array Value) (hw : ∀ d ∈ tables_1, d.before a0 Z = true) (x0 : Int32) (x1 : Int32) (x2 : Int32) (x3 : Int32) (cP : Int32) (h0 : Heap) (O0 : Ext Z.heap h0) (SC : Sta Z Z.heap "java/lang/String" "COMPACT_STRINGS" "Z" (.int cP)) (hP : ¬ cP = (0 : Int32)) (hx0 : 0 ≤ x0.toInt ∧ x0.toInt ≤ 255) (hx1 : 0 ≤ x1.toInt ∧ x1.toInt ≤ 255) (hx2 : 0 ≤ x2.toInt ∧ x2.toInt ≤ 255) (hx3 : 0 ≤ x3.toInt ∧ x3.toInt ≤ 255) :
    Met1 l Z mN33 method_4_code 8 (some (.object "java/lang/String")) ({ frames := 4, cells := 3, slots := 10, locals := 66 } : Room) #[(.int x0), (.int x1), (.int x2), (.int x3), (.int (0 : Int32)), (.int (2 : Int32))] h0 (Q_st02 Z x0 x1 x2 x3 cP h0) := by
  refine Met1.of_body (Ls := #[.val (.int x0), .val (.int x1), .val (.int x2), .val (.int x3), .val (.int (0 : Int32)), .val (.int (2 : Int32)), .unset, .unset]) pf_2 (fun m => by first | (simp [entryFrame, mkF, argsToLocals, Value.category]; done) | rfl) ?_
  intro p e s m below meth c T0 C X0 e0
  have N0 : Fr Z.heap.size [] := Fr.nil _
  refine Go.iload (pc' := 2) C X0 d2_0 rfl rfl ?_
  refine Go.iload (pc' := 4) C X0 d2_2 rfl rfl ?_
  refine Go.isub (pc' := 5) C X0 d2_4 rfl ?_
  rw [show ((2 : Int32) - (0 : Int32)) = (2 : Int32) from by decide]
  refine Go.istore (Ls' := #[.val (.int x0), .val (.int x1), .val (.int x2), .val (.int x3), .val (.int (0 : Int32)), .val (.int (2 : Int32)), .val (.int (2 : Int32)), .unset]) (pc' := 7) C X0 d2_5 rfl rfl ?_
  refine Go.iload (pc' := 9) C X0 d2_7 rfl rfl ?_
  refine Go.newP (aty := .char) (cap := 2) (vs := [(.int (0 : Int32)), (.int (0 : Int32))]) (ad := "[C") (pc' := 11) C X0 (by decide) (tw hw 8 rfl) e0 (by decide) (by decide) (by decide) (by decide) (by decide) rfl d2_9 rfl ?_
  intro T101 h101 b101 k101 X101 e101 g101 E101 A101 Ea101
  have n_b101 : Z.heap.size ≤ b101 := Nat.le_trans O0.1 (Nat.le_of_eq g101.symm)
  have z_b101 : h0.size ≤ b101 := Nat.le_trans (Nat.le_refl _) (Nat.le_of_eq g101.symm)
  have A101 : AL Z h101 b101 k101 .char [(.int (0 : Int32)), (.int (0 : Int32))] := A101
  refine Go.astore (Ls' := #[.val (.int x0), .val (.int x1), .val (.int x2), .val (.int x3), .val (.int (0 : Int32)), .val (.int (2 : Int32)), .val (.int (2 : Int32)), .val (.ref b101)]) (pc' := 13) C X101 d2_11 rfl rfl rfl ?_
  refine Go.iload (pc' := 15) C X101 d2_13 rfl rfl ?_
  refine Go.ifNo (pc' := 18) C X101 d2_15 ((if0 _ _).trans (tlt (x := (0 : Int32)) (y := (2 : Int32)) (by decide)).2.2.2) rfl ?_
  refine Go.aload (pc' := 20) C X101 d2_18 rfl rfl rfl ?_
  refine Go.iconst (z := (0 : Int32)) (pc' := 21) C X101 d2_20 rfl rfl ?_
  refine Go.iloadN (pc' := 22) C X101 d2_21 rfl rfl ?_
  refine Go.iloadN (pc' := 23) C X101 d2_22 rfl rfl ?_
  refine Go.iloadN (pc' := 24) C X101 d2_23 rfl rfl ?_
  refine Go.iloadN (pc' := 25) C X101 d2_24 rfl rfl ?_
  refine Go.iload (pc' := 27) C X101 d2_25 rfl rfl ?_
  have O104 : Ext Z.heap h101 := (Ext.trans O0 E101)
  refine Go.callS (y := mN32) (pc' := 30) C X101 (tw hw 83 rfl) (tw hw 84 rfl) (by decide) (rm_pk0 l Z a0 hw x0 x1 x2 x3 h101 O104 hx0) (tw hw 85 rfl) (tw hw 3 rfl) e101 (argsL := [(.int x0), (.int x1), (.int x2), (.int x3), (.int (0 : Int32))]) (rest := [(.int (0 : Int32)), (.ref b101)]) (W := 2) rfl rfl pd_9 rfl (Nat.le_of_eq rfl) rfl (by decide) (by decide) (by decide) (by decide) d2_27 rfl ?_
  intro T103 v103 L103 X103 q103
  obtain ⟨rfl, rfl, e103⟩ := q103
  have N103 := Fr.app N0 (Fr.nil _)
  refine Go.stC (i := 0) (x' := x0) (vs' := [(.int x0), (.int (0 : Int32))]) (pc' := 31) C X103 e103 A101 (by decide) (by decide) (by simp) (narcr hx0) rfl d2_30 rfl ?_
  intro T105 h105 X105 e105 W105 A105
  have N105 := Fr.snoc X105 N103 n_b101
  refine Go.iload (pc' := 33) C X105 d2_31 rfl rfl ?_
  refine Go.iconst (z := (1 : Int32)) (pc' := 34) C X105 d2_33 rfl rfl ?_
  refine Go.icmpNo (pc' := 37) C X105 d2_34 (tlt (x := (1 : Int32)) (y := (2 : Int32)) (by decide)).2.2.2 rfl ?_
  refine Go.aload (pc' := 39) C X105 d2_37 rfl rfl rfl ?_
  refine Go.iconst (z := (1 : Int32)) (pc' := 40) C X105 d2_39 rfl rfl ?_
  refine Go.iloadN (pc' := 41) C X105 d2_40 rfl rfl ?_
  refine Go.iloadN (pc' := 42) C X105 d2_41 rfl rfl ?_
  refine Go.iloadN (pc' := 43) C X105 d2_42 rfl rfl ?_
  refine Go.iloadN (pc' := 44) C X105 d2_43 rfl rfl ?_
  refine Go.iload (pc' := 46) C X105 d2_44 rfl rfl ?_
  refine Go.iconst (z := (1 : Int32)) (pc' := 47) C X105 d2_46 rfl rfl ?_
  refine Go.iadd (pc' := 48) C X105 d2_47 rfl ?_
  rw [show ((0 : Int32) + (1 : Int32)) = (1 : Int32) from by decide]
  have O108 : Ext Z.heap h105 := (Ext.wr O104 W105 n_b101)
  refine Go.callS (y := mN32) (pc' := 51) C X105 (tw hw 83 rfl) (tw hw 84 rfl) (by decide) (rm_pk1 l Z a0 hw x0 x1 x2 x3 h105 O108 hx1) (tw hw 85 rfl) (tw hw 3 rfl) e105 (argsL := [(.int x0), (.int x1), (.int x2), (.int x3), (.int (1 : Int32))]) (rest := [(.int (1 : Int32)), (.ref b101)]) (W := 2) rfl rfl pd_9 rfl (Nat.le_of_eq rfl) rfl (by decide) (by decide) (by decide) (by decide) d2_48 rfl ?_
  intro T107 v107 L107 X107 q107
  obtain ⟨rfl, rfl, e107⟩ := q107
  have N107 := Fr.app N105 (Fr.nil _)
  refine Go.stC (i := 1) (x' := x1) (vs' := [(.int x0), (.int x1)]) (pc' := 52) C X107 e107 A105 (by decide) (by decide) (by simp) (narcr hx1) rfl d2_51 rfl ?_
  intro T109 h109 X109 e109 W109 A109
  have N109 := Fr.snoc X109 N107 n_b101
  refine Go.iload (pc' := 54) C X109 d2_52 rfl rfl ?_
  refine Go.iconst (z := (2 : Int32)) (pc' := 55) C X109 d2_54 rfl rfl ?_
  refine Go.icmpYes (pc' := 73) C X109 d2_55 (flt (x := (2 : Int32)) (y := (2 : Int32)) (by decide)).2.2.2 (by decide) (by decide) ?_
  refine Go.iload (pc' := 75) C X109 d2_73 rfl rfl ?_
  refine Go.iconst (z := (3 : Int32)) (pc' := 76) C X109 d2_75 rfl rfl ?_
  refine Go.icmpYes (pc' := 94) C X109 d2_76 (flt (x := (3 : Int32)) (y := (2 : Int32)) (by decide)).2.2.2 (by decide) (by decide) ?_
  have O113 : Ext Z.heap h109 := (Ext.wr O108 W109 n_b101)
  refine Go.newO (pc' := 97) C X109 (tw hw 9 rfl) (tw hw 10 rfl) (tw hw 11 rfl) e109 (by decide) (by decide) d2_94 rfl ?_
  intro T112 h112 b112 X112 e112 g112 E112 A112 D112
  have n_b112 : Z.heap.size ≤ b112 := Nat.le_trans O113.1 (Nat.le_of_eq g112.symm)
  have z_b112 : h0.size ≤ b112 := Nat.le_trans (Nat.le_trans (Nat.le_trans (Nat.le_trans (Nat.le_refl _) E101.1) (Nat.le_of_eq W105.size.symm)) (Nat.le_of_eq W109.size.symm)) (Nat.le_of_eq g112.symm)
  have F112_value : Fld Z h112 b112 "java/lang/String" "value" "[B" .null := D112 (Or.inr (tw hw 24 rfl)) (ty := (.array .byte)) (by decide)
  have F112_coder : Fld Z h112 b112 "java/lang/String" "coder" "B" (.int (0 : Int32)) := D112 (Or.inr (tw hw 25 rfl)) (ty := .byte) (by decide)
  refine Go.dup (pc' := 98) C X112 d2_97 rfl rfl ?_
  refine Go.aload (pc' := 100) C X112 d2_98 rfl rfl rfl ?_
  have c115 : AL Z h112 b101 k101 .char [(.int x0), (.int x1)] := (AL.ext E112 A109)
  have O116 : Ext Z.heap h112 := (Ext.trans O113 E112)
  refine Go.callI (y := mN2) (a := b112) (pc' := 103) C X112 rfl (tw hw 12 rfl) (tw hw 13 rfl) (by decide) (rm_sI1 l Z a0 hw b112 b101 k101 ([x0, x1]) cP h112 O116 A112 F112_value F112_coder (show AL Z h112 b101 k101 .char (ch16 [x0, x1]) from c115) SC (all2 hx0 hx1) (show (2 : Nat) < 2 ^ 31 from by decide) (show (2 : Nat) ≤ 4 from by decide) (show ¬ (2 : Nat).toInt32 = (0 : Int32) from by decide) hP n_b112) (tw hw 14 rfl) (tw hw 11 rfl) e112 (argsL := [(.ref b101)]) (rest := [(.ref b112)]) (W := 1) rfl rfl pd_8 rfl (Nat.le_of_eq rfl) rfl (by decide) (by decide) (by decide) (by decide) rfl d2_100 rfl ?_
  intro T114 v114 L114 X114 q114
  obtain ⟨v_114, kv_114, rfl, N114q, K114, B114_0, P114_0, P114_1, P114_2⟩ := q114
  have N114 := Fr.app N109 N114q
  have n_v_114 : Z.heap.size ≤ v_114 := Nat.le_trans O116.1 B114_0
  have z_v_114 : h0.size ≤ v_114 := Nat.le_trans (Nat.le_trans (Nat.le_trans (Nat.le_trans (Nat.le_trans (Nat.le_refl _) E101.1) (Nat.le_of_eq W105.size.symm)) (Nat.le_of_eq W109.size.symm)) E112.1) B114_0
  have K117 : Keep h0 T114.heap [] := ((((((Keep.refl h0 []).ext E101).wr W105 (Or.inr z_b101)).wr W109 (Or.inr z_b101)).ext E112).trans K114 (allS (Or.inr z_b112) all0))
  have c118 : Exa Z T114.heap b112 "java/lang/String" := (Exa.keep A112 K114)
  exact Go.retA C X114 rfl d2_103 rfl rfl rfl ⟨b112, v_114, kv_114, rfl, N114, K117, z_b112, z_v_114, c118, P114_0, P114_1, P114_2⟩ (by decide) (by decide)
def Q_st12 (Z : State) (x0 : Int32) (x1 : Int32) (x2 : Int32) (x3 : Int32) (cP : Int32) (h0 : Heap) (rv : Option Value) (h : Heap) (L : List Loc) : Prop := ∃ r : Addr, ∃ v : Addr, ∃ kv : ClassId, rv = some (.ref r) ∧ Fr Z.heap.size L ∧ Keep h0 h [] ∧ h0.size ≤ r ∧ h0.size ≤ v ∧ Exa Z h r "java/lang/String" ∧ Fld Z h r "java/lang/String" "value" "[B" (.ref v) ∧ Fld Z h r "java/lang/String" "coder" "B" (.int (0 : Int32)) ∧ AL Z h v kv .byte (by8 [x1])
theorem rm_st12 (l : Launch) (Z : State) (a0 : Array Value) (hw : ∀ d ∈ tables_1, d.before a0 Z = true) (x0 : Int32) (x1 : Int32) (x2 : Int32) (x3 : Int32) (cP : Int32) (h0 : Heap) (O0 : Ext Z.heap h0) (SC : Sta Z Z.heap "java/lang/String" "COMPACT_STRINGS" "Z" (.int cP)) (hP : ¬ cP = (0 : Int32)) (hx0 : 0 ≤ x0.toInt ∧ x0.toInt ≤ 255) (hx1 : 0 ≤ x1.toInt ∧ x1.toInt ≤ 255) (hx2 : 0 ≤ x2.toInt ∧ x2.toInt ≤ 255) (hx3 : 0 ≤ x3.toInt ∧ x3.toInt ≤ 255) :
    Met1 l Z mN33 method_4_code 8 (some (.object "java/lang/String")) ({ frames := 4, cells := 3, slots := 9, locals := 66 } : Room) #[(.int x0), (.int x1), (.int x2), (.int x3), (.int (1 : Int32)), (.int (2 : Int32))] h0 (Q_st12 Z x0 x1 x2 x3 cP h0) := by
  refine Met1.of_body (Ls := #[.val (.int x0), .val (.int x1), .val (.int x2), .val (.int x3), .val (.int (1 : Int32)), .val (.int (2 : Int32)), .unset, .unset]) pf_2 (fun m => by first | (simp [entryFrame, mkF, argsToLocals, Value.category]; done) | rfl) ?_
  intro p e s m below meth c T0 C X0 e0
  have N0 : Fr Z.heap.size [] := Fr.nil _
  refine Go.iload (pc' := 2) C X0 d2_0 rfl rfl ?_
  refine Go.iload (pc' := 4) C X0 d2_2 rfl rfl ?_
  refine Go.isub (pc' := 5) C X0 d2_4 rfl ?_
  rw [show ((2 : Int32) - (1 : Int32)) = (1 : Int32) from by decide]
  refine Go.istore (Ls' := #[.val (.int x0), .val (.int x1), .val (.int x2), .val (.int x3), .val (.int (1 : Int32)), .val (.int (2 : Int32)), .val (.int (1 : Int32)), .unset]) (pc' := 7) C X0 d2_5 rfl rfl ?_
  refine Go.iload (pc' := 9) C X0 d2_7 rfl rfl ?_
  refine Go.newP (aty := .char) (cap := 1) (vs := [(.int (0 : Int32))]) (ad := "[C") (pc' := 11) C X0 (by decide) (tw hw 8 rfl) e0 (by decide) (by decide) (by decide) (by decide) (by decide) rfl d2_9 rfl ?_
  intro T101 h101 b101 k101 X101 e101 g101 E101 A101 Ea101
  have n_b101 : Z.heap.size ≤ b101 := Nat.le_trans O0.1 (Nat.le_of_eq g101.symm)
  have z_b101 : h0.size ≤ b101 := Nat.le_trans (Nat.le_refl _) (Nat.le_of_eq g101.symm)
  have A101 : AL Z h101 b101 k101 .char [(.int (0 : Int32))] := A101
  refine Go.astore (Ls' := #[.val (.int x0), .val (.int x1), .val (.int x2), .val (.int x3), .val (.int (1 : Int32)), .val (.int (2 : Int32)), .val (.int (1 : Int32)), .val (.ref b101)]) (pc' := 13) C X101 d2_11 rfl rfl rfl ?_
  refine Go.iload (pc' := 15) C X101 d2_13 rfl rfl ?_
  refine Go.ifNo (pc' := 18) C X101 d2_15 ((if0 _ _).trans (tlt (x := (0 : Int32)) (y := (1 : Int32)) (by decide)).2.2.2) rfl ?_
  refine Go.aload (pc' := 20) C X101 d2_18 rfl rfl rfl ?_
  refine Go.iconst (z := (0 : Int32)) (pc' := 21) C X101 d2_20 rfl rfl ?_
  refine Go.iloadN (pc' := 22) C X101 d2_21 rfl rfl ?_
  refine Go.iloadN (pc' := 23) C X101 d2_22 rfl rfl ?_
  refine Go.iloadN (pc' := 24) C X101 d2_23 rfl rfl ?_
  refine Go.iloadN (pc' := 25) C X101 d2_24 rfl rfl ?_
  refine Go.iload (pc' := 27) C X101 d2_25 rfl rfl ?_
  have O104 : Ext Z.heap h101 := (Ext.trans O0 E101)
  refine Go.callS (y := mN32) (pc' := 30) C X101 (tw hw 83 rfl) (tw hw 84 rfl) (by decide) (rm_pk1 l Z a0 hw x0 x1 x2 x3 h101 O104 hx1) (tw hw 85 rfl) (tw hw 3 rfl) e101 (argsL := [(.int x0), (.int x1), (.int x2), (.int x3), (.int (1 : Int32))]) (rest := [(.int (0 : Int32)), (.ref b101)]) (W := 2) rfl rfl pd_9 rfl (Nat.le_of_eq rfl) rfl (by decide) (by decide) (by decide) (by decide) d2_27 rfl ?_
  intro T103 v103 L103 X103 q103
  obtain ⟨rfl, rfl, e103⟩ := q103
  have N103 := Fr.app N0 (Fr.nil _)
  refine Go.stC (i := 0) (x' := x1) (vs' := [(.int x1)]) (pc' := 31) C X103 e103 A101 (by decide) (by decide) (by simp) (narcr hx1) rfl d2_30 rfl ?_
  intro T105 h105 X105 e105 W105 A105
  have N105 := Fr.snoc X105 N103 n_b101
  refine Go.iload (pc' := 33) C X105 d2_31 rfl rfl ?_
  refine Go.iconst (z := (1 : Int32)) (pc' := 34) C X105 d2_33 rfl rfl ?_
  refine Go.icmpYes (pc' := 52) C X105 d2_34 (flt (x := (1 : Int32)) (y := (1 : Int32)) (by decide)).2.2.2 (by decide) (by decide) ?_
  refine Go.iload (pc' := 54) C X105 d2_52 rfl rfl ?_
  refine Go.iconst (z := (2 : Int32)) (pc' := 55) C X105 d2_54 rfl rfl ?_
  refine Go.icmpYes (pc' := 73) C X105 d2_55 (flt (x := (2 : Int32)) (y := (1 : Int32)) (by decide)).2.2.2 (by decide) (by decide) ?_
  refine Go.iload (pc' := 75) C X105 d2_73 rfl rfl ?_
  refine Go.iconst (z := (3 : Int32)) (pc' := 76) C X105 d2_75 rfl rfl ?_
  refine Go.icmpYes (pc' := 94) C X105 d2_76 (flt (x := (3 : Int32)) (y := (1 : Int32)) (by decide)).2.2.2 (by decide) (by decide) ?_
  have O110 : Ext Z.heap h105 := (Ext.wr O104 W105 n_b101)
  refine Go.newO (pc' := 97) C X105 (tw hw 9 rfl) (tw hw 10 rfl) (tw hw 11 rfl) e105 (by decide) (by decide) d2_94 rfl ?_
  intro T109 h109 b109 X109 e109 g109 E109 A109 D109
  have n_b109 : Z.heap.size ≤ b109 := Nat.le_trans O110.1 (Nat.le_of_eq g109.symm)
  have z_b109 : h0.size ≤ b109 := Nat.le_trans (Nat.le_trans (Nat.le_trans (Nat.le_refl _) E101.1) (Nat.le_of_eq W105.size.symm)) (Nat.le_of_eq g109.symm)
  have F109_value : Fld Z h109 b109 "java/lang/String" "value" "[B" .null := D109 (Or.inr (tw hw 24 rfl)) (ty := (.array .byte)) (by decide)
  have F109_coder : Fld Z h109 b109 "java/lang/String" "coder" "B" (.int (0 : Int32)) := D109 (Or.inr (tw hw 25 rfl)) (ty := .byte) (by decide)
  refine Go.dup (pc' := 98) C X109 d2_97 rfl rfl ?_
  refine Go.aload (pc' := 100) C X109 d2_98 rfl rfl rfl ?_
  have c112 : AL Z h109 b101 k101 .char [(.int x1)] := (AL.ext E109 A105)
  have O113 : Ext Z.heap h109 := (Ext.trans O110 E109)
  refine Go.callI (y := mN2) (a := b109) (pc' := 103) C X109 rfl (tw hw 12 rfl) (tw hw 13 rfl) (by decide) (rm_sI1 l Z a0 hw b109 b101 k101 [x1] cP h109 O113 A109 F109_value F109_coder (show AL Z h109 b101 k101 .char (ch16 [x1]) from c112) SC (all1 hx1) (show (1 : Nat) < 2 ^ 31 from by decide) (show (1 : Nat) ≤ 4 from by decide) (show ¬ (1 : Nat).toInt32 = (0 : Int32) from by decide) hP n_b109) (tw hw 14 rfl) (tw hw 11 rfl) e109 (argsL := [(.ref b101)]) (rest := [(.ref b109)]) (W := 1) rfl rfl pd_8 rfl (Nat.le_of_eq rfl) rfl (by decide) (by decide) (by decide) (by decide) rfl d2_100 rfl ?_
  intro T111 v111 L111 X111 q111
  obtain ⟨v_111, kv_111, rfl, N111q, K111, B111_0, P111_0, P111_1, P111_2⟩ := q111
  have N111 := Fr.app N105 N111q
  have n_v_111 : Z.heap.size ≤ v_111 := Nat.le_trans O113.1 B111_0
  have z_v_111 : h0.size ≤ v_111 := Nat.le_trans (Nat.le_trans (Nat.le_trans (Nat.le_trans (Nat.le_refl _) E101.1) (Nat.le_of_eq W105.size.symm)) E109.1) B111_0
  have K114 : Keep h0 T111.heap [] := (((((Keep.refl h0 []).ext E101).wr W105 (Or.inr z_b101)).ext E109).trans K111 (allS (Or.inr z_b109) all0))
  have c115 : Exa Z T111.heap b109 "java/lang/String" := (Exa.keep A109 K111)
  exact Go.retA C X111 rfl d2_103 rfl rfl rfl ⟨b109, v_111, kv_111, rfl, N111, K114, z_b109, z_v_111, c115, P111_0, P111_1, P111_2⟩ (by decide) (by decide)
def Q_st22 (Z : State) (x0 : Int32) (x1 : Int32) (x2 : Int32) (x3 : Int32) (h0 : Heap) (rv : Option Value) (h : Heap) (L : List Loc) : Prop := ∃ r : Addr, ∃ v : Addr, ∃ kv : ClassId, rv = some (.ref r) ∧ Fr Z.heap.size L ∧ Keep h0 h [] ∧ h0.size ≤ r ∧ Exa Z h r "java/lang/String" ∧ Fld Z h r "java/lang/String" "value" "[B" (.ref v) ∧ Fld Z h r "java/lang/String" "coder" "B" (.int (0 : Int32)) ∧ AL Z h v kv .byte (by8 [])
theorem rm_st22 (l : Launch) (Z : State) (a0 : Array Value) (hw : ∀ d ∈ tables_1, d.before a0 Z = true) (x0 : Int32) (x1 : Int32) (x2 : Int32) (x3 : Int32) (h0 : Heap) (O0 : Ext Z.heap h0) :
    Met1H consts_1 [] l Z mN33 method_4_code 8 (some (.object "java/lang/String")) ({ frames := 3, cells := 6, slots := 12, locals := 43 } : Room) #[(.int x0), (.int x1), (.int x2), (.int x3), (.int (2 : Int32)), (.int (2 : Int32))] h0 (Q_st22 Z x0 x1 x2 x3 h0) := by
  refine Met1H.of_body (Ls := #[.val (.int x0), .val (.int x1), .val (.int x2), .val (.int x3), .val (.int (2 : Int32)), .val (.int (2 : Int32)), .unset, .unset]) pf_2 (fun m => by first | (simp [entryFrame, mkF, argsToLocals, Value.category]; done) | rfl) ?_
  intro p e s m below meth c T0 C X0 e0 hH0 hsf0
  have Hr0 := CHr.refl hH0
  have N0 : Fr Z.heap.size [] := Fr.nil _
  have Si0 : Sin s s h0 := Sin.start s h0
  refine Go.iload (pc' := 2) C X0 d2_0 rfl rfl ?_
  refine Go.iload (pc' := 4) C X0 d2_2 rfl rfl ?_
  refine Go.isub (pc' := 5) C X0 d2_4 rfl ?_
  rw [show ((2 : Int32) - (2 : Int32)) = (0 : Int32) from by decide]
  refine Go.istore (Ls' := #[.val (.int x0), .val (.int x1), .val (.int x2), .val (.int x3), .val (.int (2 : Int32)), .val (.int (2 : Int32)), .val (.int (0 : Int32)), .unset]) (pc' := 7) C X0 d2_5 rfl rfl ?_
  refine Go.iload (pc' := 9) C X0 d2_7 rfl rfl ?_
  refine Go.newP (aty := .char) (cap := 0) (vs := []) (ad := "[C") (pc' := 11) C X0 (by decide) (tw hw 8 rfl) e0 (by decide) (by decide) (by decide) (by decide) (by decide) rfl d2_9 rfl ?_
  intro T101 h101 b101 k101 X101 e101 g101 E101 A101 Ea101
  have Hr102 := CHr.trans Hr0 (CHr.ext E101 Hr0.1)
  have n_b101 : Z.heap.size ≤ b101 := Nat.le_trans O0.1 (Nat.le_of_eq g101.symm)
  have z_b101 : h0.size ≤ b101 := Nat.le_trans (Nat.le_refl _) (Nat.le_of_eq g101.symm)
  have s_b101 : Safe Z consts_1 s.vm h101 b101 := Safe.ext E101 Hr0.1 (Safe.new (Nat.le_of_eq g101.symm))
  have A101 : AL Z h101 b101 k101 .char [] := A101
  refine Go.astore (Ls' := #[.val (.int x0), .val (.int x1), .val (.int x2), .val (.int x3), .val (.int (2 : Int32)), .val (.int (2 : Int32)), .val (.int (0 : Int32)), .val (.ref b101)]) (pc' := 13) C X101 d2_11 rfl rfl rfl ?_
  refine Go.iload (pc' := 15) C X101 d2_13 rfl rfl ?_
  refine Go.ifYes (pc' := 31) C X101 d2_15 ((if0 _ _).trans (flt (x := (0 : Int32)) (y := (0 : Int32)) (by decide)).2.2.2) (by decide) (by decide) ?_
  refine Go.iload (pc' := 33) C X101 d2_31 rfl rfl ?_
  refine Go.iconst (z := (1 : Int32)) (pc' := 34) C X101 d2_33 rfl rfl ?_
  refine Go.icmpYes (pc' := 52) C X101 d2_34 (flt (x := (1 : Int32)) (y := (0 : Int32)) (by decide)).2.2.2 (by decide) (by decide) ?_
  refine Go.iload (pc' := 54) C X101 d2_52 rfl rfl ?_
  refine Go.iconst (z := (2 : Int32)) (pc' := 55) C X101 d2_54 rfl rfl ?_
  refine Go.icmpYes (pc' := 73) C X101 d2_55 (flt (x := (2 : Int32)) (y := (0 : Int32)) (by decide)).2.2.2 (by decide) (by decide) ?_
  refine Go.iload (pc' := 75) C X101 d2_73 rfl rfl ?_
  refine Go.iconst (z := (3 : Int32)) (pc' := 76) C X101 d2_75 rfl rfl ?_
  refine Go.icmpYes (pc' := 94) C X101 d2_76 (flt (x := (3 : Int32)) (y := (0 : Int32)) (by decide)).2.2.2 (by decide) (by decide) ?_
  have O108 : Ext Z.heap h101 := (Ext.trans O0 E101)
  refine Go.newO (pc' := 97) C X101 (tw hw 9 rfl) (tw hw 10 rfl) (tw hw 11 rfl) e101 (by decide) (by decide) d2_94 rfl ?_
  intro T107 h107 b107 X107 e107 g107 E107 A107 D107
  have Hr109 := CHr.trans Hr102 (CHr.ext E107 Hr102.1)
  have n_b107 : Z.heap.size ≤ b107 := Nat.le_trans O108.1 (Nat.le_of_eq g107.symm)
  have z_b107 : h0.size ≤ b107 := Nat.le_trans (Nat.le_trans (Nat.le_refl _) E101.1) (Nat.le_of_eq g107.symm)
  have s_b107 : Safe Z consts_1 s.vm h107 b107 := Safe.ext E107 Hr102.1 (Safe.new (Nat.le_of_eq g107.symm))
  have F107_value : Fld Z h107 b107 "java/lang/String" "value" "[B" .null := D107 (Or.inr (tw hw 24 rfl)) (ty := (.array .byte)) (by decide)
  have F107_coder : Fld Z h107 b107 "java/lang/String" "coder" "B" (.int (0 : Int32)) := D107 (Or.inr (tw hw 25 rfl)) (ty := .byte) (by decide)
  refine Go.dup (pc' := 98) C X107 d2_97 rfl rfl ?_
  refine Go.aload (pc' := 100) C X107 d2_98 rfl rfl rfl ?_
  have c111 : AL Z h107 b101 k101 .char [] := (AL.ext E107 A101)
  have O112 : Ext Z.heap h107 := (Ext.trans O108 E107)
  have Si113 : Sin s s h107 := Sin.mono Si0 (Nat.le_trans (Nat.le_trans (Nat.le_refl _) E101.1) E107.1)
  refine Go.callIH (y := mN2) (a := b107) (pc' := 103) C X107 Si113 (EWc hw) Hr109.1 rfl (tw hw 12 rfl) (tw hw 13 rfl) (by decide) (allS ⟨Nat.lt_of_lt_of_le A107.lt (Nat.le_refl _), s_b107⟩ all0) (rm_sI1z l Z a0 hw b107 b101 k101 h107 O112 A107 F107_value F107_coder c111 n_b107) (tw hw 14 rfl) (tw hw 11 rfl) e107 (argsL := [(.ref b101)]) (rest := [(.ref b107)]) (W := 1) rfl rfl pd_8 rfl (Nat.le_of_eq rfl) rfl (by decide) (by decide) (by decide) (by decide) rfl d2_100 rfl ?_
  intro T110 v110 L110 sC110 C110 X110 Si110 hR110 q110
  obtain ⟨v_110, kv_110, rfl, N110q, K110, P110_0, P110_1, P110_2⟩ := q110
  have N110 := Fr.app N0 N110q
  have Hr114 := CHr.trans Hr109 hR110
  have K115 : Keep h0 T110.heap [] := ((((Keep.refl h0 []).ext E101).ext E107).trans K110 (allS (Or.inr z_b107) all0))
  have c116 : Exa Z T110.heap b107 "java/lang/String" := (Exa.keep A107 K110)
  exact Go.retAH C110 X110 Si110 (EWc hw) Hr114 rfl d2_103 rfl rfl rfl ⟨b107, v_110, kv_110, rfl, N110, K115, z_b107, c116, P110_0, P110_1, P110_2⟩ (by decide) (by decide)
theorem d2_58 : decode method_4_code 58 = .ok (.aload 7, 2) := by decide +kernel
theorem d2_60 : decode method_4_code 60 = .ok (.iconst 2, 1) := by decide +kernel
theorem d2_61 : decode method_4_code 61 = .ok (.iload_n 0, 1) := by decide +kernel
theorem d2_62 : decode method_4_code 62 = .ok (.iload_n 1, 1) := by decide +kernel
theorem d2_63 : decode method_4_code 63 = .ok (.iload_n 2, 1) := by decide +kernel
theorem d2_64 : decode method_4_code 64 = .ok (.iload_n 3, 1) := by decide +kernel
theorem d2_65 : decode method_4_code 65 = .ok (.iload 4, 2) := by decide +kernel
theorem d2_67 : decode method_4_code 67 = .ok (.iconst 2, 1) := by decide +kernel
theorem d2_68 : decode method_4_code 68 = .ok (.iadd, 1) := by decide +kernel
theorem d2_69 : decode method_4_code 69 = .ok (.invokestatic 7, 3) := by decide +kernel
theorem d2_72 : decode method_4_code 72 = .ok (.castore, 1) := by decide +kernel
def Q_st03 (Z : State) (x0 : Int32) (x1 : Int32) (x2 : Int32) (x3 : Int32) (cP : Int32) (h0 : Heap) (rv : Option Value) (h : Heap) (L : List Loc) : Prop := ∃ r : Addr, ∃ v : Addr, ∃ kv : ClassId, rv = some (.ref r) ∧ Fr Z.heap.size L ∧ Keep h0 h [] ∧ h0.size ≤ r ∧ h0.size ≤ v ∧ Exa Z h r "java/lang/String" ∧ Fld Z h r "java/lang/String" "value" "[B" (.ref v) ∧ Fld Z h r "java/lang/String" "coder" "B" (.int (0 : Int32)) ∧ AL Z h v kv .byte (by8 [x0, x1, x2])
theorem rm_st03 (l : Launch) (Z : State) (a0 : Array Value) (hw : ∀ d ∈ tables_1, d.before a0 Z = true) (x0 : Int32) (x1 : Int32) (x2 : Int32) (x3 : Int32) (cP : Int32) (h0 : Heap) (O0 : Ext Z.heap h0) (SC : Sta Z Z.heap "java/lang/String" "COMPACT_STRINGS" "Z" (.int cP)) (hP : ¬ cP = (0 : Int32)) (hx0 : 0 ≤ x0.toInt ∧ x0.toInt ≤ 255) (hx1 : 0 ≤ x1.toInt ∧ x1.toInt ≤ 255) (hx2 : 0 ≤ x2.toInt ∧ x2.toInt ≤ 255) (hx3 : 0 ≤ x3.toInt ∧ x3.toInt ≤ 255) :
    Met1 l Z mN33 method_4_code 8 (some (.object "java/lang/String")) ({ frames := 4, cells := 3, slots := 11, locals := 66 } : Room) #[(.int x0), (.int x1), (.int x2), (.int x3), (.int (0 : Int32)), (.int (3 : Int32))] h0 (Q_st03 Z x0 x1 x2 x3 cP h0) := by
  refine Met1.of_body (Ls := #[.val (.int x0), .val (.int x1), .val (.int x2), .val (.int x3), .val (.int (0 : Int32)), .val (.int (3 : Int32)), .unset, .unset]) pf_2 (fun m => by first | (simp [entryFrame, mkF, argsToLocals, Value.category]; done) | rfl) ?_
  intro p e s m below meth c T0 C X0 e0
  have N0 : Fr Z.heap.size [] := Fr.nil _
  refine Go.iload (pc' := 2) C X0 d2_0 rfl rfl ?_
  refine Go.iload (pc' := 4) C X0 d2_2 rfl rfl ?_
  refine Go.isub (pc' := 5) C X0 d2_4 rfl ?_
  rw [show ((3 : Int32) - (0 : Int32)) = (3 : Int32) from by decide]
  refine Go.istore (Ls' := #[.val (.int x0), .val (.int x1), .val (.int x2), .val (.int x3), .val (.int (0 : Int32)), .val (.int (3 : Int32)), .val (.int (3 : Int32)), .unset]) (pc' := 7) C X0 d2_5 rfl rfl ?_
  refine Go.iload (pc' := 9) C X0 d2_7 rfl rfl ?_
  refine Go.newP (aty := .char) (cap := 3) (vs := [(.int (0 : Int32)), (.int (0 : Int32)), (.int (0 : Int32))]) (ad := "[C") (pc' := 11) C X0 (by decide) (tw hw 8 rfl) e0 (by decide) (by decide) (by decide) (by decide) (by decide) rfl d2_9 rfl ?_
  intro T101 h101 b101 k101 X101 e101 g101 E101 A101 Ea101
  have n_b101 : Z.heap.size ≤ b101 := Nat.le_trans O0.1 (Nat.le_of_eq g101.symm)
  have z_b101 : h0.size ≤ b101 := Nat.le_trans (Nat.le_refl _) (Nat.le_of_eq g101.symm)
  have A101 : AL Z h101 b101 k101 .char [(.int (0 : Int32)), (.int (0 : Int32)), (.int (0 : Int32))] := A101
  refine Go.astore (Ls' := #[.val (.int x0), .val (.int x1), .val (.int x2), .val (.int x3), .val (.int (0 : Int32)), .val (.int (3 : Int32)), .val (.int (3 : Int32)), .val (.ref b101)]) (pc' := 13) C X101 d2_11 rfl rfl rfl ?_
  refine Go.iload (pc' := 15) C X101 d2_13 rfl rfl ?_
  refine Go.ifNo (pc' := 18) C X101 d2_15 ((if0 _ _).trans (tlt (x := (0 : Int32)) (y := (3 : Int32)) (by decide)).2.2.2) rfl ?_
  refine Go.aload (pc' := 20) C X101 d2_18 rfl rfl rfl ?_
  refine Go.iconst (z := (0 : Int32)) (pc' := 21) C X101 d2_20 rfl rfl ?_
  refine Go.iloadN (pc' := 22) C X101 d2_21 rfl rfl ?_
  refine Go.iloadN (pc' := 23) C X101 d2_22 rfl rfl ?_
  refine Go.iloadN (pc' := 24) C X101 d2_23 rfl rfl ?_
  refine Go.iloadN (pc' := 25) C X101 d2_24 rfl rfl ?_
  refine Go.iload (pc' := 27) C X101 d2_25 rfl rfl ?_
  have O104 : Ext Z.heap h101 := (Ext.trans O0 E101)
  refine Go.callS (y := mN32) (pc' := 30) C X101 (tw hw 83 rfl) (tw hw 84 rfl) (by decide) (rm_pk0 l Z a0 hw x0 x1 x2 x3 h101 O104 hx0) (tw hw 85 rfl) (tw hw 3 rfl) e101 (argsL := [(.int x0), (.int x1), (.int x2), (.int x3), (.int (0 : Int32))]) (rest := [(.int (0 : Int32)), (.ref b101)]) (W := 2) rfl rfl pd_9 rfl (Nat.le_of_eq rfl) rfl (by decide) (by decide) (by decide) (by decide) d2_27 rfl ?_
  intro T103 v103 L103 X103 q103
  obtain ⟨rfl, rfl, e103⟩ := q103
  have N103 := Fr.app N0 (Fr.nil _)
  refine Go.stC (i := 0) (x' := x0) (vs' := [(.int x0), (.int (0 : Int32)), (.int (0 : Int32))]) (pc' := 31) C X103 e103 A101 (by decide) (by decide) (by simp) (narcr hx0) rfl d2_30 rfl ?_
  intro T105 h105 X105 e105 W105 A105
  have N105 := Fr.snoc X105 N103 n_b101
  refine Go.iload (pc' := 33) C X105 d2_31 rfl rfl ?_
  refine Go.iconst (z := (1 : Int32)) (pc' := 34) C X105 d2_33 rfl rfl ?_
  refine Go.icmpNo (pc' := 37) C X105 d2_34 (tlt (x := (1 : Int32)) (y := (3 : Int32)) (by decide)).2.2.2 rfl ?_
  refine Go.aload (pc' := 39) C X105 d2_37 rfl rfl rfl ?_
  refine Go.iconst (z := (1 : Int32)) (pc' := 40) C X105 d2_39 rfl rfl ?_
  refine Go.iloadN (pc' := 41) C X105 d2_40 rfl rfl ?_
  refine Go.iloadN (pc' := 42) C X105 d2_41 rfl rfl ?_
  refine Go.iloadN (pc' := 43) C X105 d2_42 rfl rfl ?_
  refine Go.iloadN (pc' := 44) C X105 d2_43 rfl rfl ?_
  refine Go.iload (pc' := 46) C X105 d2_44 rfl rfl ?_
  refine Go.iconst (z := (1 : Int32)) (pc' := 47) C X105 d2_46 rfl rfl ?_
  refine Go.iadd (pc' := 48) C X105 d2_47 rfl ?_
  rw [show ((0 : Int32) + (1 : Int32)) = (1 : Int32) from by decide]
  have O108 : Ext Z.heap h105 := (Ext.wr O104 W105 n_b101)
  refine Go.callS (y := mN32) (pc' := 51) C X105 (tw hw 83 rfl) (tw hw 84 rfl) (by decide) (rm_pk1 l Z a0 hw x0 x1 x2 x3 h105 O108 hx1) (tw hw 85 rfl) (tw hw 3 rfl) e105 (argsL := [(.int x0), (.int x1), (.int x2), (.int x3), (.int (1 : Int32))]) (rest := [(.int (1 : Int32)), (.ref b101)]) (W := 2) rfl rfl pd_9 rfl (Nat.le_of_eq rfl) rfl (by decide) (by decide) (by decide) (by decide) d2_48 rfl ?_
  intro T107 v107 L107 X107 q107
  obtain ⟨rfl, rfl, e107⟩ := q107
  have N107 := Fr.app N105 (Fr.nil _)
  refine Go.stC (i := 1) (x' := x1) (vs' := [(.int x0), (.int x1), (.int (0 : Int32))]) (pc' := 52) C X107 e107 A105 (by decide) (by decide) (by simp) (narcr hx1) rfl d2_51 rfl ?_
  intro T109 h109 X109 e109 W109 A109
  have N109 := Fr.snoc X109 N107 n_b101
  refine Go.iload (pc' := 54) C X109 d2_52 rfl rfl ?_
  refine Go.iconst (z := (2 : Int32)) (pc' := 55) C X109 d2_54 rfl rfl ?_
  refine Go.icmpNo (pc' := 58) C X109 d2_55 (tlt (x := (2 : Int32)) (y := (3 : Int32)) (by decide)).2.2.2 rfl ?_
  refine Go.aload (pc' := 60) C X109 d2_58 rfl rfl rfl ?_
  refine Go.iconst (z := (2 : Int32)) (pc' := 61) C X109 d2_60 rfl rfl ?_
  refine Go.iloadN (pc' := 62) C X109 d2_61 rfl rfl ?_
  refine Go.iloadN (pc' := 63) C X109 d2_62 rfl rfl ?_
  refine Go.iloadN (pc' := 64) C X109 d2_63 rfl rfl ?_
  refine Go.iloadN (pc' := 65) C X109 d2_64 rfl rfl ?_
  refine Go.iload (pc' := 67) C X109 d2_65 rfl rfl ?_
  refine Go.iconst (z := (2 : Int32)) (pc' := 68) C X109 d2_67 rfl rfl ?_
  refine Go.iadd (pc' := 69) C X109 d2_68 rfl ?_
  rw [show ((0 : Int32) + (2 : Int32)) = (2 : Int32) from by decide]
  have O112 : Ext Z.heap h109 := (Ext.wr O108 W109 n_b101)
  refine Go.callS (y := mN32) (pc' := 72) C X109 (tw hw 83 rfl) (tw hw 84 rfl) (by decide) (rm_pk2 l Z a0 hw x0 x1 x2 x3 h109 O112 hx2) (tw hw 85 rfl) (tw hw 3 rfl) e109 (argsL := [(.int x0), (.int x1), (.int x2), (.int x3), (.int (2 : Int32))]) (rest := [(.int (2 : Int32)), (.ref b101)]) (W := 2) rfl rfl pd_9 rfl (Nat.le_of_eq rfl) rfl (by decide) (by decide) (by decide) (by decide) d2_69 rfl ?_
  intro T111 v111 L111 X111 q111
  obtain ⟨rfl, rfl, e111⟩ := q111
  have N111 := Fr.app N109 (Fr.nil _)
  refine Go.stC (i := 2) (x' := x2) (vs' := [(.int x0), (.int x1), (.int x2)]) (pc' := 73) C X111 e111 A109 (by decide) (by decide) (by simp) (narcr hx2) rfl d2_72 rfl ?_
  intro T113 h113 X113 e113 W113 A113
  have N113 := Fr.snoc X113 N111 n_b101
  refine Go.iload (pc' := 75) C X113 d2_73 rfl rfl ?_
  refine Go.iconst (z := (3 : Int32)) (pc' := 76) C X113 d2_75 rfl rfl ?_
  refine Go.icmpYes (pc' := 94) C X113 d2_76 (flt (x := (3 : Int32)) (y := (3 : Int32)) (by decide)).2.2.2 (by decide) (by decide) ?_
  have O116 : Ext Z.heap h113 := (Ext.wr O112 W113 n_b101)
  refine Go.newO (pc' := 97) C X113 (tw hw 9 rfl) (tw hw 10 rfl) (tw hw 11 rfl) e113 (by decide) (by decide) d2_94 rfl ?_
  intro T115 h115 b115 X115 e115 g115 E115 A115 D115
  have n_b115 : Z.heap.size ≤ b115 := Nat.le_trans O116.1 (Nat.le_of_eq g115.symm)
  have z_b115 : h0.size ≤ b115 := Nat.le_trans (Nat.le_trans (Nat.le_trans (Nat.le_trans (Nat.le_trans (Nat.le_refl _) E101.1) (Nat.le_of_eq W105.size.symm)) (Nat.le_of_eq W109.size.symm)) (Nat.le_of_eq W113.size.symm)) (Nat.le_of_eq g115.symm)
  have F115_value : Fld Z h115 b115 "java/lang/String" "value" "[B" .null := D115 (Or.inr (tw hw 24 rfl)) (ty := (.array .byte)) (by decide)
  have F115_coder : Fld Z h115 b115 "java/lang/String" "coder" "B" (.int (0 : Int32)) := D115 (Or.inr (tw hw 25 rfl)) (ty := .byte) (by decide)
  refine Go.dup (pc' := 98) C X115 d2_97 rfl rfl ?_
  refine Go.aload (pc' := 100) C X115 d2_98 rfl rfl rfl ?_
  have c118 : AL Z h115 b101 k101 .char [(.int x0), (.int x1), (.int x2)] := (AL.ext E115 A113)
  have O119 : Ext Z.heap h115 := (Ext.trans O116 E115)
  refine Go.callI (y := mN2) (a := b115) (pc' := 103) C X115 rfl (tw hw 12 rfl) (tw hw 13 rfl) (by decide) (rm_sI1 l Z a0 hw b115 b101 k101 ([x0, x1, x2]) cP h115 O119 A115 F115_value F115_coder (show AL Z h115 b101 k101 .char (ch16 [x0, x1, x2]) from c118) SC (all3 hx0 hx1 hx2) (show (3 : Nat) < 2 ^ 31 from by decide) (show (3 : Nat) ≤ 4 from by decide) (show ¬ (3 : Nat).toInt32 = (0 : Int32) from by decide) hP n_b115) (tw hw 14 rfl) (tw hw 11 rfl) e115 (argsL := [(.ref b101)]) (rest := [(.ref b115)]) (W := 1) rfl rfl pd_8 rfl (Nat.le_of_eq rfl) rfl (by decide) (by decide) (by decide) (by decide) rfl d2_100 rfl ?_
  intro T117 v117 L117 X117 q117
  obtain ⟨v_117, kv_117, rfl, N117q, K117, B117_0, P117_0, P117_1, P117_2⟩ := q117
  have N117 := Fr.app N113 N117q
  have n_v_117 : Z.heap.size ≤ v_117 := Nat.le_trans O119.1 B117_0
  have z_v_117 : h0.size ≤ v_117 := Nat.le_trans (Nat.le_trans (Nat.le_trans (Nat.le_trans (Nat.le_trans (Nat.le_trans (Nat.le_refl _) E101.1) (Nat.le_of_eq W105.size.symm)) (Nat.le_of_eq W109.size.symm)) (Nat.le_of_eq W113.size.symm)) E115.1) B117_0
  have K120 : Keep h0 T117.heap [] := (((((((Keep.refl h0 []).ext E101).wr W105 (Or.inr z_b101)).wr W109 (Or.inr z_b101)).wr W113 (Or.inr z_b101)).ext E115).trans K117 (allS (Or.inr z_b115) all0))
  have c121 : Exa Z T117.heap b115 "java/lang/String" := (Exa.keep A115 K117)
  exact Go.retA C X117 rfl d2_103 rfl rfl rfl ⟨b115, v_117, kv_117, rfl, N117, K120, z_b115, z_v_117, c121, P117_0, P117_1, P117_2⟩ (by decide) (by decide)
def Q_st13 (Z : State) (x0 : Int32) (x1 : Int32) (x2 : Int32) (x3 : Int32) (cP : Int32) (h0 : Heap) (rv : Option Value) (h : Heap) (L : List Loc) : Prop := ∃ r : Addr, ∃ v : Addr, ∃ kv : ClassId, rv = some (.ref r) ∧ Fr Z.heap.size L ∧ Keep h0 h [] ∧ h0.size ≤ r ∧ h0.size ≤ v ∧ Exa Z h r "java/lang/String" ∧ Fld Z h r "java/lang/String" "value" "[B" (.ref v) ∧ Fld Z h r "java/lang/String" "coder" "B" (.int (0 : Int32)) ∧ AL Z h v kv .byte (by8 [x1, x2])
theorem rm_st13 (l : Launch) (Z : State) (a0 : Array Value) (hw : ∀ d ∈ tables_1, d.before a0 Z = true) (x0 : Int32) (x1 : Int32) (x2 : Int32) (x3 : Int32) (cP : Int32) (h0 : Heap) (O0 : Ext Z.heap h0) (SC : Sta Z Z.heap "java/lang/String" "COMPACT_STRINGS" "Z" (.int cP)) (hP : ¬ cP = (0 : Int32)) (hx0 : 0 ≤ x0.toInt ∧ x0.toInt ≤ 255) (hx1 : 0 ≤ x1.toInt ∧ x1.toInt ≤ 255) (hx2 : 0 ≤ x2.toInt ∧ x2.toInt ≤ 255) (hx3 : 0 ≤ x3.toInt ∧ x3.toInt ≤ 255) :
    Met1 l Z mN33 method_4_code 8 (some (.object "java/lang/String")) ({ frames := 4, cells := 3, slots := 10, locals := 66 } : Room) #[(.int x0), (.int x1), (.int x2), (.int x3), (.int (1 : Int32)), (.int (3 : Int32))] h0 (Q_st13 Z x0 x1 x2 x3 cP h0) := by
  refine Met1.of_body (Ls := #[.val (.int x0), .val (.int x1), .val (.int x2), .val (.int x3), .val (.int (1 : Int32)), .val (.int (3 : Int32)), .unset, .unset]) pf_2 (fun m => by first | (simp [entryFrame, mkF, argsToLocals, Value.category]; done) | rfl) ?_
  intro p e s m below meth c T0 C X0 e0
  have N0 : Fr Z.heap.size [] := Fr.nil _
  refine Go.iload (pc' := 2) C X0 d2_0 rfl rfl ?_
  refine Go.iload (pc' := 4) C X0 d2_2 rfl rfl ?_
  refine Go.isub (pc' := 5) C X0 d2_4 rfl ?_
  rw [show ((3 : Int32) - (1 : Int32)) = (2 : Int32) from by decide]
  refine Go.istore (Ls' := #[.val (.int x0), .val (.int x1), .val (.int x2), .val (.int x3), .val (.int (1 : Int32)), .val (.int (3 : Int32)), .val (.int (2 : Int32)), .unset]) (pc' := 7) C X0 d2_5 rfl rfl ?_
  refine Go.iload (pc' := 9) C X0 d2_7 rfl rfl ?_
  refine Go.newP (aty := .char) (cap := 2) (vs := [(.int (0 : Int32)), (.int (0 : Int32))]) (ad := "[C") (pc' := 11) C X0 (by decide) (tw hw 8 rfl) e0 (by decide) (by decide) (by decide) (by decide) (by decide) rfl d2_9 rfl ?_
  intro T101 h101 b101 k101 X101 e101 g101 E101 A101 Ea101
  have n_b101 : Z.heap.size ≤ b101 := Nat.le_trans O0.1 (Nat.le_of_eq g101.symm)
  have z_b101 : h0.size ≤ b101 := Nat.le_trans (Nat.le_refl _) (Nat.le_of_eq g101.symm)
  have A101 : AL Z h101 b101 k101 .char [(.int (0 : Int32)), (.int (0 : Int32))] := A101
  refine Go.astore (Ls' := #[.val (.int x0), .val (.int x1), .val (.int x2), .val (.int x3), .val (.int (1 : Int32)), .val (.int (3 : Int32)), .val (.int (2 : Int32)), .val (.ref b101)]) (pc' := 13) C X101 d2_11 rfl rfl rfl ?_
  refine Go.iload (pc' := 15) C X101 d2_13 rfl rfl ?_
  refine Go.ifNo (pc' := 18) C X101 d2_15 ((if0 _ _).trans (tlt (x := (0 : Int32)) (y := (2 : Int32)) (by decide)).2.2.2) rfl ?_
  refine Go.aload (pc' := 20) C X101 d2_18 rfl rfl rfl ?_
  refine Go.iconst (z := (0 : Int32)) (pc' := 21) C X101 d2_20 rfl rfl ?_
  refine Go.iloadN (pc' := 22) C X101 d2_21 rfl rfl ?_
  refine Go.iloadN (pc' := 23) C X101 d2_22 rfl rfl ?_
  refine Go.iloadN (pc' := 24) C X101 d2_23 rfl rfl ?_
  refine Go.iloadN (pc' := 25) C X101 d2_24 rfl rfl ?_
  refine Go.iload (pc' := 27) C X101 d2_25 rfl rfl ?_
  have O104 : Ext Z.heap h101 := (Ext.trans O0 E101)
  refine Go.callS (y := mN32) (pc' := 30) C X101 (tw hw 83 rfl) (tw hw 84 rfl) (by decide) (rm_pk1 l Z a0 hw x0 x1 x2 x3 h101 O104 hx1) (tw hw 85 rfl) (tw hw 3 rfl) e101 (argsL := [(.int x0), (.int x1), (.int x2), (.int x3), (.int (1 : Int32))]) (rest := [(.int (0 : Int32)), (.ref b101)]) (W := 2) rfl rfl pd_9 rfl (Nat.le_of_eq rfl) rfl (by decide) (by decide) (by decide) (by decide) d2_27 rfl ?_
  intro T103 v103 L103 X103 q103
  obtain ⟨rfl, rfl, e103⟩ := q103
  have N103 := Fr.app N0 (Fr.nil _)
  refine Go.stC (i := 0) (x' := x1) (vs' := [(.int x1), (.int (0 : Int32))]) (pc' := 31) C X103 e103 A101 (by decide) (by decide) (by simp) (narcr hx1) rfl d2_30 rfl ?_
  intro T105 h105 X105 e105 W105 A105
  have N105 := Fr.snoc X105 N103 n_b101
  refine Go.iload (pc' := 33) C X105 d2_31 rfl rfl ?_
  refine Go.iconst (z := (1 : Int32)) (pc' := 34) C X105 d2_33 rfl rfl ?_
  refine Go.icmpNo (pc' := 37) C X105 d2_34 (tlt (x := (1 : Int32)) (y := (2 : Int32)) (by decide)).2.2.2 rfl ?_
  refine Go.aload (pc' := 39) C X105 d2_37 rfl rfl rfl ?_
  refine Go.iconst (z := (1 : Int32)) (pc' := 40) C X105 d2_39 rfl rfl ?_
  refine Go.iloadN (pc' := 41) C X105 d2_40 rfl rfl ?_
  refine Go.iloadN (pc' := 42) C X105 d2_41 rfl rfl ?_
  refine Go.iloadN (pc' := 43) C X105 d2_42 rfl rfl ?_
  refine Go.iloadN (pc' := 44) C X105 d2_43 rfl rfl ?_
  refine Go.iload (pc' := 46) C X105 d2_44 rfl rfl ?_
  refine Go.iconst (z := (1 : Int32)) (pc' := 47) C X105 d2_46 rfl rfl ?_
  refine Go.iadd (pc' := 48) C X105 d2_47 rfl ?_
  rw [show ((1 : Int32) + (1 : Int32)) = (2 : Int32) from by decide]
  have O108 : Ext Z.heap h105 := (Ext.wr O104 W105 n_b101)
  refine Go.callS (y := mN32) (pc' := 51) C X105 (tw hw 83 rfl) (tw hw 84 rfl) (by decide) (rm_pk2 l Z a0 hw x0 x1 x2 x3 h105 O108 hx2) (tw hw 85 rfl) (tw hw 3 rfl) e105 (argsL := [(.int x0), (.int x1), (.int x2), (.int x3), (.int (2 : Int32))]) (rest := [(.int (1 : Int32)), (.ref b101)]) (W := 2) rfl rfl pd_9 rfl (Nat.le_of_eq rfl) rfl (by decide) (by decide) (by decide) (by decide) d2_48 rfl ?_
  intro T107 v107 L107 X107 q107
  obtain ⟨rfl, rfl, e107⟩ := q107
  have N107 := Fr.app N105 (Fr.nil _)
  refine Go.stC (i := 1) (x' := x2) (vs' := [(.int x1), (.int x2)]) (pc' := 52) C X107 e107 A105 (by decide) (by decide) (by simp) (narcr hx2) rfl d2_51 rfl ?_
  intro T109 h109 X109 e109 W109 A109
  have N109 := Fr.snoc X109 N107 n_b101
  refine Go.iload (pc' := 54) C X109 d2_52 rfl rfl ?_
  refine Go.iconst (z := (2 : Int32)) (pc' := 55) C X109 d2_54 rfl rfl ?_
  refine Go.icmpYes (pc' := 73) C X109 d2_55 (flt (x := (2 : Int32)) (y := (2 : Int32)) (by decide)).2.2.2 (by decide) (by decide) ?_
  refine Go.iload (pc' := 75) C X109 d2_73 rfl rfl ?_
  refine Go.iconst (z := (3 : Int32)) (pc' := 76) C X109 d2_75 rfl rfl ?_
  refine Go.icmpYes (pc' := 94) C X109 d2_76 (flt (x := (3 : Int32)) (y := (2 : Int32)) (by decide)).2.2.2 (by decide) (by decide) ?_
  have O113 : Ext Z.heap h109 := (Ext.wr O108 W109 n_b101)
  refine Go.newO (pc' := 97) C X109 (tw hw 9 rfl) (tw hw 10 rfl) (tw hw 11 rfl) e109 (by decide) (by decide) d2_94 rfl ?_
  intro T112 h112 b112 X112 e112 g112 E112 A112 D112
  have n_b112 : Z.heap.size ≤ b112 := Nat.le_trans O113.1 (Nat.le_of_eq g112.symm)
  have z_b112 : h0.size ≤ b112 := Nat.le_trans (Nat.le_trans (Nat.le_trans (Nat.le_trans (Nat.le_refl _) E101.1) (Nat.le_of_eq W105.size.symm)) (Nat.le_of_eq W109.size.symm)) (Nat.le_of_eq g112.symm)
  have F112_value : Fld Z h112 b112 "java/lang/String" "value" "[B" .null := D112 (Or.inr (tw hw 24 rfl)) (ty := (.array .byte)) (by decide)
  have F112_coder : Fld Z h112 b112 "java/lang/String" "coder" "B" (.int (0 : Int32)) := D112 (Or.inr (tw hw 25 rfl)) (ty := .byte) (by decide)
  refine Go.dup (pc' := 98) C X112 d2_97 rfl rfl ?_
  refine Go.aload (pc' := 100) C X112 d2_98 rfl rfl rfl ?_
  have c115 : AL Z h112 b101 k101 .char [(.int x1), (.int x2)] := (AL.ext E112 A109)
  have O116 : Ext Z.heap h112 := (Ext.trans O113 E112)
  refine Go.callI (y := mN2) (a := b112) (pc' := 103) C X112 rfl (tw hw 12 rfl) (tw hw 13 rfl) (by decide) (rm_sI1 l Z a0 hw b112 b101 k101 ([x1, x2]) cP h112 O116 A112 F112_value F112_coder (show AL Z h112 b101 k101 .char (ch16 [x1, x2]) from c115) SC (all2 hx1 hx2) (show (2 : Nat) < 2 ^ 31 from by decide) (show (2 : Nat) ≤ 4 from by decide) (show ¬ (2 : Nat).toInt32 = (0 : Int32) from by decide) hP n_b112) (tw hw 14 rfl) (tw hw 11 rfl) e112 (argsL := [(.ref b101)]) (rest := [(.ref b112)]) (W := 1) rfl rfl pd_8 rfl (Nat.le_of_eq rfl) rfl (by decide) (by decide) (by decide) (by decide) rfl d2_100 rfl ?_
  intro T114 v114 L114 X114 q114
  obtain ⟨v_114, kv_114, rfl, N114q, K114, B114_0, P114_0, P114_1, P114_2⟩ := q114
  have N114 := Fr.app N109 N114q
  have n_v_114 : Z.heap.size ≤ v_114 := Nat.le_trans O116.1 B114_0
  have z_v_114 : h0.size ≤ v_114 := Nat.le_trans (Nat.le_trans (Nat.le_trans (Nat.le_trans (Nat.le_trans (Nat.le_refl _) E101.1) (Nat.le_of_eq W105.size.symm)) (Nat.le_of_eq W109.size.symm)) E112.1) B114_0
  have K117 : Keep h0 T114.heap [] := ((((((Keep.refl h0 []).ext E101).wr W105 (Or.inr z_b101)).wr W109 (Or.inr z_b101)).ext E112).trans K114 (allS (Or.inr z_b112) all0))
  have c118 : Exa Z T114.heap b112 "java/lang/String" := (Exa.keep A112 K114)
  exact Go.retA C X114 rfl d2_103 rfl rfl rfl ⟨b112, v_114, kv_114, rfl, N114, K117, z_b112, z_v_114, c118, P114_0, P114_1, P114_2⟩ (by decide) (by decide)
def Q_st23 (Z : State) (x0 : Int32) (x1 : Int32) (x2 : Int32) (x3 : Int32) (cP : Int32) (h0 : Heap) (rv : Option Value) (h : Heap) (L : List Loc) : Prop := ∃ r : Addr, ∃ v : Addr, ∃ kv : ClassId, rv = some (.ref r) ∧ Fr Z.heap.size L ∧ Keep h0 h [] ∧ h0.size ≤ r ∧ h0.size ≤ v ∧ Exa Z h r "java/lang/String" ∧ Fld Z h r "java/lang/String" "value" "[B" (.ref v) ∧ Fld Z h r "java/lang/String" "coder" "B" (.int (0 : Int32)) ∧ AL Z h v kv .byte (by8 [x2])
theorem rm_st23 (l : Launch) (Z : State) (a0 : Array Value) (hw : ∀ d ∈ tables_1, d.before a0 Z = true) (x0 : Int32) (x1 : Int32) (x2 : Int32) (x3 : Int32) (cP : Int32) (h0 : Heap) (O0 : Ext Z.heap h0) (SC : Sta Z Z.heap "java/lang/String" "COMPACT_STRINGS" "Z" (.int cP)) (hP : ¬ cP = (0 : Int32)) (hx0 : 0 ≤ x0.toInt ∧ x0.toInt ≤ 255) (hx1 : 0 ≤ x1.toInt ∧ x1.toInt ≤ 255) (hx2 : 0 ≤ x2.toInt ∧ x2.toInt ≤ 255) (hx3 : 0 ≤ x3.toInt ∧ x3.toInt ≤ 255) :
    Met1 l Z mN33 method_4_code 8 (some (.object "java/lang/String")) ({ frames := 4, cells := 3, slots := 9, locals := 66 } : Room) #[(.int x0), (.int x1), (.int x2), (.int x3), (.int (2 : Int32)), (.int (3 : Int32))] h0 (Q_st23 Z x0 x1 x2 x3 cP h0) := by
  refine Met1.of_body (Ls := #[.val (.int x0), .val (.int x1), .val (.int x2), .val (.int x3), .val (.int (2 : Int32)), .val (.int (3 : Int32)), .unset, .unset]) pf_2 (fun m => by first | (simp [entryFrame, mkF, argsToLocals, Value.category]; done) | rfl) ?_
  intro p e s m below meth c T0 C X0 e0
  have N0 : Fr Z.heap.size [] := Fr.nil _
  refine Go.iload (pc' := 2) C X0 d2_0 rfl rfl ?_
  refine Go.iload (pc' := 4) C X0 d2_2 rfl rfl ?_
  refine Go.isub (pc' := 5) C X0 d2_4 rfl ?_
  rw [show ((3 : Int32) - (2 : Int32)) = (1 : Int32) from by decide]
  refine Go.istore (Ls' := #[.val (.int x0), .val (.int x1), .val (.int x2), .val (.int x3), .val (.int (2 : Int32)), .val (.int (3 : Int32)), .val (.int (1 : Int32)), .unset]) (pc' := 7) C X0 d2_5 rfl rfl ?_
  refine Go.iload (pc' := 9) C X0 d2_7 rfl rfl ?_
  refine Go.newP (aty := .char) (cap := 1) (vs := [(.int (0 : Int32))]) (ad := "[C") (pc' := 11) C X0 (by decide) (tw hw 8 rfl) e0 (by decide) (by decide) (by decide) (by decide) (by decide) rfl d2_9 rfl ?_
  intro T101 h101 b101 k101 X101 e101 g101 E101 A101 Ea101
  have n_b101 : Z.heap.size ≤ b101 := Nat.le_trans O0.1 (Nat.le_of_eq g101.symm)
  have z_b101 : h0.size ≤ b101 := Nat.le_trans (Nat.le_refl _) (Nat.le_of_eq g101.symm)
  have A101 : AL Z h101 b101 k101 .char [(.int (0 : Int32))] := A101
  refine Go.astore (Ls' := #[.val (.int x0), .val (.int x1), .val (.int x2), .val (.int x3), .val (.int (2 : Int32)), .val (.int (3 : Int32)), .val (.int (1 : Int32)), .val (.ref b101)]) (pc' := 13) C X101 d2_11 rfl rfl rfl ?_
  refine Go.iload (pc' := 15) C X101 d2_13 rfl rfl ?_
  refine Go.ifNo (pc' := 18) C X101 d2_15 ((if0 _ _).trans (tlt (x := (0 : Int32)) (y := (1 : Int32)) (by decide)).2.2.2) rfl ?_
  refine Go.aload (pc' := 20) C X101 d2_18 rfl rfl rfl ?_
  refine Go.iconst (z := (0 : Int32)) (pc' := 21) C X101 d2_20 rfl rfl ?_
  refine Go.iloadN (pc' := 22) C X101 d2_21 rfl rfl ?_
  refine Go.iloadN (pc' := 23) C X101 d2_22 rfl rfl ?_
  refine Go.iloadN (pc' := 24) C X101 d2_23 rfl rfl ?_
  refine Go.iloadN (pc' := 25) C X101 d2_24 rfl rfl ?_
  refine Go.iload (pc' := 27) C X101 d2_25 rfl rfl ?_
  have O104 : Ext Z.heap h101 := (Ext.trans O0 E101)
  refine Go.callS (y := mN32) (pc' := 30) C X101 (tw hw 83 rfl) (tw hw 84 rfl) (by decide) (rm_pk2 l Z a0 hw x0 x1 x2 x3 h101 O104 hx2) (tw hw 85 rfl) (tw hw 3 rfl) e101 (argsL := [(.int x0), (.int x1), (.int x2), (.int x3), (.int (2 : Int32))]) (rest := [(.int (0 : Int32)), (.ref b101)]) (W := 2) rfl rfl pd_9 rfl (Nat.le_of_eq rfl) rfl (by decide) (by decide) (by decide) (by decide) d2_27 rfl ?_
  intro T103 v103 L103 X103 q103
  obtain ⟨rfl, rfl, e103⟩ := q103
  have N103 := Fr.app N0 (Fr.nil _)
  refine Go.stC (i := 0) (x' := x2) (vs' := [(.int x2)]) (pc' := 31) C X103 e103 A101 (by decide) (by decide) (by simp) (narcr hx2) rfl d2_30 rfl ?_
  intro T105 h105 X105 e105 W105 A105
  have N105 := Fr.snoc X105 N103 n_b101
  refine Go.iload (pc' := 33) C X105 d2_31 rfl rfl ?_
  refine Go.iconst (z := (1 : Int32)) (pc' := 34) C X105 d2_33 rfl rfl ?_
  refine Go.icmpYes (pc' := 52) C X105 d2_34 (flt (x := (1 : Int32)) (y := (1 : Int32)) (by decide)).2.2.2 (by decide) (by decide) ?_
  refine Go.iload (pc' := 54) C X105 d2_52 rfl rfl ?_
  refine Go.iconst (z := (2 : Int32)) (pc' := 55) C X105 d2_54 rfl rfl ?_
  refine Go.icmpYes (pc' := 73) C X105 d2_55 (flt (x := (2 : Int32)) (y := (1 : Int32)) (by decide)).2.2.2 (by decide) (by decide) ?_
  refine Go.iload (pc' := 75) C X105 d2_73 rfl rfl ?_
  refine Go.iconst (z := (3 : Int32)) (pc' := 76) C X105 d2_75 rfl rfl ?_
  refine Go.icmpYes (pc' := 94) C X105 d2_76 (flt (x := (3 : Int32)) (y := (1 : Int32)) (by decide)).2.2.2 (by decide) (by decide) ?_
  have O110 : Ext Z.heap h105 := (Ext.wr O104 W105 n_b101)
  refine Go.newO (pc' := 97) C X105 (tw hw 9 rfl) (tw hw 10 rfl) (tw hw 11 rfl) e105 (by decide) (by decide) d2_94 rfl ?_
  intro T109 h109 b109 X109 e109 g109 E109 A109 D109
  have n_b109 : Z.heap.size ≤ b109 := Nat.le_trans O110.1 (Nat.le_of_eq g109.symm)
  have z_b109 : h0.size ≤ b109 := Nat.le_trans (Nat.le_trans (Nat.le_trans (Nat.le_refl _) E101.1) (Nat.le_of_eq W105.size.symm)) (Nat.le_of_eq g109.symm)
  have F109_value : Fld Z h109 b109 "java/lang/String" "value" "[B" .null := D109 (Or.inr (tw hw 24 rfl)) (ty := (.array .byte)) (by decide)
  have F109_coder : Fld Z h109 b109 "java/lang/String" "coder" "B" (.int (0 : Int32)) := D109 (Or.inr (tw hw 25 rfl)) (ty := .byte) (by decide)
  refine Go.dup (pc' := 98) C X109 d2_97 rfl rfl ?_
  refine Go.aload (pc' := 100) C X109 d2_98 rfl rfl rfl ?_
  have c112 : AL Z h109 b101 k101 .char [(.int x2)] := (AL.ext E109 A105)
  have O113 : Ext Z.heap h109 := (Ext.trans O110 E109)
  refine Go.callI (y := mN2) (a := b109) (pc' := 103) C X109 rfl (tw hw 12 rfl) (tw hw 13 rfl) (by decide) (rm_sI1 l Z a0 hw b109 b101 k101 [x2] cP h109 O113 A109 F109_value F109_coder (show AL Z h109 b101 k101 .char (ch16 [x2]) from c112) SC (all1 hx2) (show (1 : Nat) < 2 ^ 31 from by decide) (show (1 : Nat) ≤ 4 from by decide) (show ¬ (1 : Nat).toInt32 = (0 : Int32) from by decide) hP n_b109) (tw hw 14 rfl) (tw hw 11 rfl) e109 (argsL := [(.ref b101)]) (rest := [(.ref b109)]) (W := 1) rfl rfl pd_8 rfl (Nat.le_of_eq rfl) rfl (by decide) (by decide) (by decide) (by decide) rfl d2_100 rfl ?_
  intro T111 v111 L111 X111 q111
  obtain ⟨v_111, kv_111, rfl, N111q, K111, B111_0, P111_0, P111_1, P111_2⟩ := q111
  have N111 := Fr.app N105 N111q
  have n_v_111 : Z.heap.size ≤ v_111 := Nat.le_trans O113.1 B111_0
  have z_v_111 : h0.size ≤ v_111 := Nat.le_trans (Nat.le_trans (Nat.le_trans (Nat.le_trans (Nat.le_refl _) E101.1) (Nat.le_of_eq W105.size.symm)) E109.1) B111_0
  have K114 : Keep h0 T111.heap [] := (((((Keep.refl h0 []).ext E101).wr W105 (Or.inr z_b101)).ext E109).trans K111 (allS (Or.inr z_b109) all0))
  have c115 : Exa Z T111.heap b109 "java/lang/String" := (Exa.keep A109 K111)
  exact Go.retA C X111 rfl d2_103 rfl rfl rfl ⟨b109, v_111, kv_111, rfl, N111, K114, z_b109, z_v_111, c115, P111_0, P111_1, P111_2⟩ (by decide) (by decide)
def Q_st33 (Z : State) (x0 : Int32) (x1 : Int32) (x2 : Int32) (x3 : Int32) (h0 : Heap) (rv : Option Value) (h : Heap) (L : List Loc) : Prop := ∃ r : Addr, ∃ v : Addr, ∃ kv : ClassId, rv = some (.ref r) ∧ Fr Z.heap.size L ∧ Keep h0 h [] ∧ h0.size ≤ r ∧ Exa Z h r "java/lang/String" ∧ Fld Z h r "java/lang/String" "value" "[B" (.ref v) ∧ Fld Z h r "java/lang/String" "coder" "B" (.int (0 : Int32)) ∧ AL Z h v kv .byte (by8 [])
theorem rm_st33 (l : Launch) (Z : State) (a0 : Array Value) (hw : ∀ d ∈ tables_1, d.before a0 Z = true) (x0 : Int32) (x1 : Int32) (x2 : Int32) (x3 : Int32) (h0 : Heap) (O0 : Ext Z.heap h0) :
    Met1H consts_1 [] l Z mN33 method_4_code 8 (some (.object "java/lang/String")) ({ frames := 3, cells := 6, slots := 12, locals := 43 } : Room) #[(.int x0), (.int x1), (.int x2), (.int x3), (.int (3 : Int32)), (.int (3 : Int32))] h0 (Q_st33 Z x0 x1 x2 x3 h0) := by
  refine Met1H.of_body (Ls := #[.val (.int x0), .val (.int x1), .val (.int x2), .val (.int x3), .val (.int (3 : Int32)), .val (.int (3 : Int32)), .unset, .unset]) pf_2 (fun m => by first | (simp [entryFrame, mkF, argsToLocals, Value.category]; done) | rfl) ?_
  intro p e s m below meth c T0 C X0 e0 hH0 hsf0
  have Hr0 := CHr.refl hH0
  have N0 : Fr Z.heap.size [] := Fr.nil _
  have Si0 : Sin s s h0 := Sin.start s h0
  refine Go.iload (pc' := 2) C X0 d2_0 rfl rfl ?_
  refine Go.iload (pc' := 4) C X0 d2_2 rfl rfl ?_
  refine Go.isub (pc' := 5) C X0 d2_4 rfl ?_
  rw [show ((3 : Int32) - (3 : Int32)) = (0 : Int32) from by decide]
  refine Go.istore (Ls' := #[.val (.int x0), .val (.int x1), .val (.int x2), .val (.int x3), .val (.int (3 : Int32)), .val (.int (3 : Int32)), .val (.int (0 : Int32)), .unset]) (pc' := 7) C X0 d2_5 rfl rfl ?_
  refine Go.iload (pc' := 9) C X0 d2_7 rfl rfl ?_
  refine Go.newP (aty := .char) (cap := 0) (vs := []) (ad := "[C") (pc' := 11) C X0 (by decide) (tw hw 8 rfl) e0 (by decide) (by decide) (by decide) (by decide) (by decide) rfl d2_9 rfl ?_
  intro T101 h101 b101 k101 X101 e101 g101 E101 A101 Ea101
  have Hr102 := CHr.trans Hr0 (CHr.ext E101 Hr0.1)
  have n_b101 : Z.heap.size ≤ b101 := Nat.le_trans O0.1 (Nat.le_of_eq g101.symm)
  have z_b101 : h0.size ≤ b101 := Nat.le_trans (Nat.le_refl _) (Nat.le_of_eq g101.symm)
  have s_b101 : Safe Z consts_1 s.vm h101 b101 := Safe.ext E101 Hr0.1 (Safe.new (Nat.le_of_eq g101.symm))
  have A101 : AL Z h101 b101 k101 .char [] := A101
  refine Go.astore (Ls' := #[.val (.int x0), .val (.int x1), .val (.int x2), .val (.int x3), .val (.int (3 : Int32)), .val (.int (3 : Int32)), .val (.int (0 : Int32)), .val (.ref b101)]) (pc' := 13) C X101 d2_11 rfl rfl rfl ?_
  refine Go.iload (pc' := 15) C X101 d2_13 rfl rfl ?_
  refine Go.ifYes (pc' := 31) C X101 d2_15 ((if0 _ _).trans (flt (x := (0 : Int32)) (y := (0 : Int32)) (by decide)).2.2.2) (by decide) (by decide) ?_
  refine Go.iload (pc' := 33) C X101 d2_31 rfl rfl ?_
  refine Go.iconst (z := (1 : Int32)) (pc' := 34) C X101 d2_33 rfl rfl ?_
  refine Go.icmpYes (pc' := 52) C X101 d2_34 (flt (x := (1 : Int32)) (y := (0 : Int32)) (by decide)).2.2.2 (by decide) (by decide) ?_
  refine Go.iload (pc' := 54) C X101 d2_52 rfl rfl ?_
  refine Go.iconst (z := (2 : Int32)) (pc' := 55) C X101 d2_54 rfl rfl ?_
  refine Go.icmpYes (pc' := 73) C X101 d2_55 (flt (x := (2 : Int32)) (y := (0 : Int32)) (by decide)).2.2.2 (by decide) (by decide) ?_
  refine Go.iload (pc' := 75) C X101 d2_73 rfl rfl ?_
  refine Go.iconst (z := (3 : Int32)) (pc' := 76) C X101 d2_75 rfl rfl ?_
  refine Go.icmpYes (pc' := 94) C X101 d2_76 (flt (x := (3 : Int32)) (y := (0 : Int32)) (by decide)).2.2.2 (by decide) (by decide) ?_
  have O108 : Ext Z.heap h101 := (Ext.trans O0 E101)
  refine Go.newO (pc' := 97) C X101 (tw hw 9 rfl) (tw hw 10 rfl) (tw hw 11 rfl) e101 (by decide) (by decide) d2_94 rfl ?_
  intro T107 h107 b107 X107 e107 g107 E107 A107 D107
  have Hr109 := CHr.trans Hr102 (CHr.ext E107 Hr102.1)
  have n_b107 : Z.heap.size ≤ b107 := Nat.le_trans O108.1 (Nat.le_of_eq g107.symm)
  have z_b107 : h0.size ≤ b107 := Nat.le_trans (Nat.le_trans (Nat.le_refl _) E101.1) (Nat.le_of_eq g107.symm)
  have s_b107 : Safe Z consts_1 s.vm h107 b107 := Safe.ext E107 Hr102.1 (Safe.new (Nat.le_of_eq g107.symm))
  have F107_value : Fld Z h107 b107 "java/lang/String" "value" "[B" .null := D107 (Or.inr (tw hw 24 rfl)) (ty := (.array .byte)) (by decide)
  have F107_coder : Fld Z h107 b107 "java/lang/String" "coder" "B" (.int (0 : Int32)) := D107 (Or.inr (tw hw 25 rfl)) (ty := .byte) (by decide)
  refine Go.dup (pc' := 98) C X107 d2_97 rfl rfl ?_
  refine Go.aload (pc' := 100) C X107 d2_98 rfl rfl rfl ?_
  have c111 : AL Z h107 b101 k101 .char [] := (AL.ext E107 A101)
  have O112 : Ext Z.heap h107 := (Ext.trans O108 E107)
  have Si113 : Sin s s h107 := Sin.mono Si0 (Nat.le_trans (Nat.le_trans (Nat.le_refl _) E101.1) E107.1)
  refine Go.callIH (y := mN2) (a := b107) (pc' := 103) C X107 Si113 (EWc hw) Hr109.1 rfl (tw hw 12 rfl) (tw hw 13 rfl) (by decide) (allS ⟨Nat.lt_of_lt_of_le A107.lt (Nat.le_refl _), s_b107⟩ all0) (rm_sI1z l Z a0 hw b107 b101 k101 h107 O112 A107 F107_value F107_coder c111 n_b107) (tw hw 14 rfl) (tw hw 11 rfl) e107 (argsL := [(.ref b101)]) (rest := [(.ref b107)]) (W := 1) rfl rfl pd_8 rfl (Nat.le_of_eq rfl) rfl (by decide) (by decide) (by decide) (by decide) rfl d2_100 rfl ?_
  intro T110 v110 L110 sC110 C110 X110 Si110 hR110 q110
  obtain ⟨v_110, kv_110, rfl, N110q, K110, P110_0, P110_1, P110_2⟩ := q110
  have N110 := Fr.app N0 N110q
  have Hr114 := CHr.trans Hr109 hR110
  have K115 : Keep h0 T110.heap [] := ((((Keep.refl h0 []).ext E101).ext E107).trans K110 (allS (Or.inr z_b107) all0))
  have c116 : Exa Z T110.heap b107 "java/lang/String" := (Exa.keep A107 K110)
  exact Go.retAH C110 X110 Si110 (EWc hw) Hr114 rfl d2_103 rfl rfl rfl ⟨b107, v_110, kv_110, rfl, N110, K115, z_b107, c116, P110_0, P110_1, P110_2⟩ (by decide) (by decide)
theorem d2_79 : decode method_4_code 79 = .ok (.aload 7, 2) := by decide +kernel
theorem d2_81 : decode method_4_code 81 = .ok (.iconst 3, 1) := by decide +kernel
theorem d2_82 : decode method_4_code 82 = .ok (.iload_n 0, 1) := by decide +kernel
theorem d2_83 : decode method_4_code 83 = .ok (.iload_n 1, 1) := by decide +kernel
theorem d2_84 : decode method_4_code 84 = .ok (.iload_n 2, 1) := by decide +kernel
theorem d2_85 : decode method_4_code 85 = .ok (.iload_n 3, 1) := by decide +kernel
theorem d2_86 : decode method_4_code 86 = .ok (.iload 4, 2) := by decide +kernel
theorem d2_88 : decode method_4_code 88 = .ok (.iconst 3, 1) := by decide +kernel
theorem d2_89 : decode method_4_code 89 = .ok (.iadd, 1) := by decide +kernel
theorem d2_90 : decode method_4_code 90 = .ok (.invokestatic 7, 3) := by decide +kernel
theorem d2_93 : decode method_4_code 93 = .ok (.castore, 1) := by decide +kernel
def Q_st04 (Z : State) (x0 : Int32) (x1 : Int32) (x2 : Int32) (x3 : Int32) (cP : Int32) (h0 : Heap) (rv : Option Value) (h : Heap) (L : List Loc) : Prop := ∃ r : Addr, ∃ v : Addr, ∃ kv : ClassId, rv = some (.ref r) ∧ Fr Z.heap.size L ∧ Keep h0 h [] ∧ h0.size ≤ r ∧ h0.size ≤ v ∧ Exa Z h r "java/lang/String" ∧ Fld Z h r "java/lang/String" "value" "[B" (.ref v) ∧ Fld Z h r "java/lang/String" "coder" "B" (.int (0 : Int32)) ∧ AL Z h v kv .byte (by8 [x0, x1, x2, x3])
theorem rm_st04 (l : Launch) (Z : State) (a0 : Array Value) (hw : ∀ d ∈ tables_1, d.before a0 Z = true) (x0 : Int32) (x1 : Int32) (x2 : Int32) (x3 : Int32) (cP : Int32) (h0 : Heap) (O0 : Ext Z.heap h0) (SC : Sta Z Z.heap "java/lang/String" "COMPACT_STRINGS" "Z" (.int cP)) (hP : ¬ cP = (0 : Int32)) (hx0 : 0 ≤ x0.toInt ∧ x0.toInt ≤ 255) (hx1 : 0 ≤ x1.toInt ∧ x1.toInt ≤ 255) (hx2 : 0 ≤ x2.toInt ∧ x2.toInt ≤ 255) (hx3 : 0 ≤ x3.toInt ∧ x3.toInt ≤ 255) :
    Met1 l Z mN33 method_4_code 8 (some (.object "java/lang/String")) ({ frames := 4, cells := 3, slots := 12, locals := 66 } : Room) #[(.int x0), (.int x1), (.int x2), (.int x3), (.int (0 : Int32)), (.int (4 : Int32))] h0 (Q_st04 Z x0 x1 x2 x3 cP h0) := by
  refine Met1.of_body (Ls := #[.val (.int x0), .val (.int x1), .val (.int x2), .val (.int x3), .val (.int (0 : Int32)), .val (.int (4 : Int32)), .unset, .unset]) pf_2 (fun m => by first | (simp [entryFrame, mkF, argsToLocals, Value.category]; done) | rfl) ?_
  intro p e s m below meth c T0 C X0 e0
  have N0 : Fr Z.heap.size [] := Fr.nil _
  refine Go.iload (pc' := 2) C X0 d2_0 rfl rfl ?_
  refine Go.iload (pc' := 4) C X0 d2_2 rfl rfl ?_
  refine Go.isub (pc' := 5) C X0 d2_4 rfl ?_
  rw [show ((4 : Int32) - (0 : Int32)) = (4 : Int32) from by decide]
  refine Go.istore (Ls' := #[.val (.int x0), .val (.int x1), .val (.int x2), .val (.int x3), .val (.int (0 : Int32)), .val (.int (4 : Int32)), .val (.int (4 : Int32)), .unset]) (pc' := 7) C X0 d2_5 rfl rfl ?_
  refine Go.iload (pc' := 9) C X0 d2_7 rfl rfl ?_
  refine Go.newP (aty := .char) (cap := 4) (vs := [(.int (0 : Int32)), (.int (0 : Int32)), (.int (0 : Int32)), (.int (0 : Int32))]) (ad := "[C") (pc' := 11) C X0 (by decide) (tw hw 8 rfl) e0 (by decide) (by decide) (by decide) (by decide) (by decide) rfl d2_9 rfl ?_
  intro T101 h101 b101 k101 X101 e101 g101 E101 A101 Ea101
  have n_b101 : Z.heap.size ≤ b101 := Nat.le_trans O0.1 (Nat.le_of_eq g101.symm)
  have z_b101 : h0.size ≤ b101 := Nat.le_trans (Nat.le_refl _) (Nat.le_of_eq g101.symm)
  have A101 : AL Z h101 b101 k101 .char [(.int (0 : Int32)), (.int (0 : Int32)), (.int (0 : Int32)), (.int (0 : Int32))] := A101
  refine Go.astore (Ls' := #[.val (.int x0), .val (.int x1), .val (.int x2), .val (.int x3), .val (.int (0 : Int32)), .val (.int (4 : Int32)), .val (.int (4 : Int32)), .val (.ref b101)]) (pc' := 13) C X101 d2_11 rfl rfl rfl ?_
  refine Go.iload (pc' := 15) C X101 d2_13 rfl rfl ?_
  refine Go.ifNo (pc' := 18) C X101 d2_15 ((if0 _ _).trans (tlt (x := (0 : Int32)) (y := (4 : Int32)) (by decide)).2.2.2) rfl ?_
  refine Go.aload (pc' := 20) C X101 d2_18 rfl rfl rfl ?_
  refine Go.iconst (z := (0 : Int32)) (pc' := 21) C X101 d2_20 rfl rfl ?_
  refine Go.iloadN (pc' := 22) C X101 d2_21 rfl rfl ?_
  refine Go.iloadN (pc' := 23) C X101 d2_22 rfl rfl ?_
  refine Go.iloadN (pc' := 24) C X101 d2_23 rfl rfl ?_
  refine Go.iloadN (pc' := 25) C X101 d2_24 rfl rfl ?_
  refine Go.iload (pc' := 27) C X101 d2_25 rfl rfl ?_
  have O104 : Ext Z.heap h101 := (Ext.trans O0 E101)
  refine Go.callS (y := mN32) (pc' := 30) C X101 (tw hw 83 rfl) (tw hw 84 rfl) (by decide) (rm_pk0 l Z a0 hw x0 x1 x2 x3 h101 O104 hx0) (tw hw 85 rfl) (tw hw 3 rfl) e101 (argsL := [(.int x0), (.int x1), (.int x2), (.int x3), (.int (0 : Int32))]) (rest := [(.int (0 : Int32)), (.ref b101)]) (W := 2) rfl rfl pd_9 rfl (Nat.le_of_eq rfl) rfl (by decide) (by decide) (by decide) (by decide) d2_27 rfl ?_
  intro T103 v103 L103 X103 q103
  obtain ⟨rfl, rfl, e103⟩ := q103
  have N103 := Fr.app N0 (Fr.nil _)
  refine Go.stC (i := 0) (x' := x0) (vs' := [(.int x0), (.int (0 : Int32)), (.int (0 : Int32)), (.int (0 : Int32))]) (pc' := 31) C X103 e103 A101 (by decide) (by decide) (by simp) (narcr hx0) rfl d2_30 rfl ?_
  intro T105 h105 X105 e105 W105 A105
  have N105 := Fr.snoc X105 N103 n_b101
  refine Go.iload (pc' := 33) C X105 d2_31 rfl rfl ?_
  refine Go.iconst (z := (1 : Int32)) (pc' := 34) C X105 d2_33 rfl rfl ?_
  refine Go.icmpNo (pc' := 37) C X105 d2_34 (tlt (x := (1 : Int32)) (y := (4 : Int32)) (by decide)).2.2.2 rfl ?_
  refine Go.aload (pc' := 39) C X105 d2_37 rfl rfl rfl ?_
  refine Go.iconst (z := (1 : Int32)) (pc' := 40) C X105 d2_39 rfl rfl ?_
  refine Go.iloadN (pc' := 41) C X105 d2_40 rfl rfl ?_
  refine Go.iloadN (pc' := 42) C X105 d2_41 rfl rfl ?_
  refine Go.iloadN (pc' := 43) C X105 d2_42 rfl rfl ?_
  refine Go.iloadN (pc' := 44) C X105 d2_43 rfl rfl ?_
  refine Go.iload (pc' := 46) C X105 d2_44 rfl rfl ?_
  refine Go.iconst (z := (1 : Int32)) (pc' := 47) C X105 d2_46 rfl rfl ?_
  refine Go.iadd (pc' := 48) C X105 d2_47 rfl ?_
  rw [show ((0 : Int32) + (1 : Int32)) = (1 : Int32) from by decide]
  have O108 : Ext Z.heap h105 := (Ext.wr O104 W105 n_b101)
  refine Go.callS (y := mN32) (pc' := 51) C X105 (tw hw 83 rfl) (tw hw 84 rfl) (by decide) (rm_pk1 l Z a0 hw x0 x1 x2 x3 h105 O108 hx1) (tw hw 85 rfl) (tw hw 3 rfl) e105 (argsL := [(.int x0), (.int x1), (.int x2), (.int x3), (.int (1 : Int32))]) (rest := [(.int (1 : Int32)), (.ref b101)]) (W := 2) rfl rfl pd_9 rfl (Nat.le_of_eq rfl) rfl (by decide) (by decide) (by decide) (by decide) d2_48 rfl ?_
  intro T107 v107 L107 X107 q107
  obtain ⟨rfl, rfl, e107⟩ := q107
  have N107 := Fr.app N105 (Fr.nil _)
  refine Go.stC (i := 1) (x' := x1) (vs' := [(.int x0), (.int x1), (.int (0 : Int32)), (.int (0 : Int32))]) (pc' := 52) C X107 e107 A105 (by decide) (by decide) (by simp) (narcr hx1) rfl d2_51 rfl ?_
  intro T109 h109 X109 e109 W109 A109
  have N109 := Fr.snoc X109 N107 n_b101
  refine Go.iload (pc' := 54) C X109 d2_52 rfl rfl ?_
  refine Go.iconst (z := (2 : Int32)) (pc' := 55) C X109 d2_54 rfl rfl ?_
  refine Go.icmpNo (pc' := 58) C X109 d2_55 (tlt (x := (2 : Int32)) (y := (4 : Int32)) (by decide)).2.2.2 rfl ?_
  refine Go.aload (pc' := 60) C X109 d2_58 rfl rfl rfl ?_
  refine Go.iconst (z := (2 : Int32)) (pc' := 61) C X109 d2_60 rfl rfl ?_
  refine Go.iloadN (pc' := 62) C X109 d2_61 rfl rfl ?_
  refine Go.iloadN (pc' := 63) C X109 d2_62 rfl rfl ?_
  refine Go.iloadN (pc' := 64) C X109 d2_63 rfl rfl ?_
  refine Go.iloadN (pc' := 65) C X109 d2_64 rfl rfl ?_
  refine Go.iload (pc' := 67) C X109 d2_65 rfl rfl ?_
  refine Go.iconst (z := (2 : Int32)) (pc' := 68) C X109 d2_67 rfl rfl ?_
  refine Go.iadd (pc' := 69) C X109 d2_68 rfl ?_
  rw [show ((0 : Int32) + (2 : Int32)) = (2 : Int32) from by decide]
  have O112 : Ext Z.heap h109 := (Ext.wr O108 W109 n_b101)
  refine Go.callS (y := mN32) (pc' := 72) C X109 (tw hw 83 rfl) (tw hw 84 rfl) (by decide) (rm_pk2 l Z a0 hw x0 x1 x2 x3 h109 O112 hx2) (tw hw 85 rfl) (tw hw 3 rfl) e109 (argsL := [(.int x0), (.int x1), (.int x2), (.int x3), (.int (2 : Int32))]) (rest := [(.int (2 : Int32)), (.ref b101)]) (W := 2) rfl rfl pd_9 rfl (Nat.le_of_eq rfl) rfl (by decide) (by decide) (by decide) (by decide) d2_69 rfl ?_
  intro T111 v111 L111 X111 q111
  obtain ⟨rfl, rfl, e111⟩ := q111
  have N111 := Fr.app N109 (Fr.nil _)
  refine Go.stC (i := 2) (x' := x2) (vs' := [(.int x0), (.int x1), (.int x2), (.int (0 : Int32))]) (pc' := 73) C X111 e111 A109 (by decide) (by decide) (by simp) (narcr hx2) rfl d2_72 rfl ?_
  intro T113 h113 X113 e113 W113 A113
  have N113 := Fr.snoc X113 N111 n_b101
  refine Go.iload (pc' := 75) C X113 d2_73 rfl rfl ?_
  refine Go.iconst (z := (3 : Int32)) (pc' := 76) C X113 d2_75 rfl rfl ?_
  refine Go.icmpNo (pc' := 79) C X113 d2_76 (tlt (x := (3 : Int32)) (y := (4 : Int32)) (by decide)).2.2.2 rfl ?_
  refine Go.aload (pc' := 81) C X113 d2_79 rfl rfl rfl ?_
  refine Go.iconst (z := (3 : Int32)) (pc' := 82) C X113 d2_81 rfl rfl ?_
  refine Go.iloadN (pc' := 83) C X113 d2_82 rfl rfl ?_
  refine Go.iloadN (pc' := 84) C X113 d2_83 rfl rfl ?_
  refine Go.iloadN (pc' := 85) C X113 d2_84 rfl rfl ?_
  refine Go.iloadN (pc' := 86) C X113 d2_85 rfl rfl ?_
  refine Go.iload (pc' := 88) C X113 d2_86 rfl rfl ?_
  refine Go.iconst (z := (3 : Int32)) (pc' := 89) C X113 d2_88 rfl rfl ?_
  refine Go.iadd (pc' := 90) C X113 d2_89 rfl ?_
  rw [show ((0 : Int32) + (3 : Int32)) = (3 : Int32) from by decide]
  have O116 : Ext Z.heap h113 := (Ext.wr O112 W113 n_b101)
  refine Go.callS (y := mN32) (pc' := 93) C X113 (tw hw 83 rfl) (tw hw 84 rfl) (by decide) (rm_pk3 l Z a0 hw x0 x1 x2 x3 h113 O116 hx3) (tw hw 85 rfl) (tw hw 3 rfl) e113 (argsL := [(.int x0), (.int x1), (.int x2), (.int x3), (.int (3 : Int32))]) (rest := [(.int (3 : Int32)), (.ref b101)]) (W := 2) rfl rfl pd_9 rfl (Nat.le_of_eq rfl) rfl (by decide) (by decide) (by decide) (by decide) d2_90 rfl ?_
  intro T115 v115 L115 X115 q115
  obtain ⟨rfl, rfl, e115⟩ := q115
  have N115 := Fr.app N113 (Fr.nil _)
  refine Go.stC (i := 3) (x' := x3) (vs' := [(.int x0), (.int x1), (.int x2), (.int x3)]) (pc' := 94) C X115 e115 A113 (by decide) (by decide) (by simp) (narcr hx3) rfl d2_93 rfl ?_
  intro T117 h117 X117 e117 W117 A117
  have N117 := Fr.snoc X117 N115 n_b101
  have O119 : Ext Z.heap h117 := (Ext.wr O116 W117 n_b101)
  refine Go.newO (pc' := 97) C X117 (tw hw 9 rfl) (tw hw 10 rfl) (tw hw 11 rfl) e117 (by decide) (by decide) d2_94 rfl ?_
  intro T118 h118 b118 X118 e118 g118 E118 A118 D118
  have n_b118 : Z.heap.size ≤ b118 := Nat.le_trans O119.1 (Nat.le_of_eq g118.symm)
  have z_b118 : h0.size ≤ b118 := Nat.le_trans (Nat.le_trans (Nat.le_trans (Nat.le_trans (Nat.le_trans (Nat.le_trans (Nat.le_refl _) E101.1) (Nat.le_of_eq W105.size.symm)) (Nat.le_of_eq W109.size.symm)) (Nat.le_of_eq W113.size.symm)) (Nat.le_of_eq W117.size.symm)) (Nat.le_of_eq g118.symm)
  have F118_value : Fld Z h118 b118 "java/lang/String" "value" "[B" .null := D118 (Or.inr (tw hw 24 rfl)) (ty := (.array .byte)) (by decide)
  have F118_coder : Fld Z h118 b118 "java/lang/String" "coder" "B" (.int (0 : Int32)) := D118 (Or.inr (tw hw 25 rfl)) (ty := .byte) (by decide)
  refine Go.dup (pc' := 98) C X118 d2_97 rfl rfl ?_
  refine Go.aload (pc' := 100) C X118 d2_98 rfl rfl rfl ?_
  have c121 : AL Z h118 b101 k101 .char [(.int x0), (.int x1), (.int x2), (.int x3)] := (AL.ext E118 A117)
  have O122 : Ext Z.heap h118 := (Ext.trans O119 E118)
  refine Go.callI (y := mN2) (a := b118) (pc' := 103) C X118 rfl (tw hw 12 rfl) (tw hw 13 rfl) (by decide) (rm_sI1 l Z a0 hw b118 b101 k101 ([x0, x1, x2, x3]) cP h118 O122 A118 F118_value F118_coder (show AL Z h118 b101 k101 .char (ch16 [x0, x1, x2, x3]) from c121) SC (all4 hx0 hx1 hx2 hx3) (show (4 : Nat) < 2 ^ 31 from by decide) (show (4 : Nat) ≤ 4 from by decide) (show ¬ (4 : Nat).toInt32 = (0 : Int32) from by decide) hP n_b118) (tw hw 14 rfl) (tw hw 11 rfl) e118 (argsL := [(.ref b101)]) (rest := [(.ref b118)]) (W := 1) rfl rfl pd_8 rfl (Nat.le_of_eq rfl) rfl (by decide) (by decide) (by decide) (by decide) rfl d2_100 rfl ?_
  intro T120 v120 L120 X120 q120
  obtain ⟨v_120, kv_120, rfl, N120q, K120, B120_0, P120_0, P120_1, P120_2⟩ := q120
  have N120 := Fr.app N117 N120q
  have n_v_120 : Z.heap.size ≤ v_120 := Nat.le_trans O122.1 B120_0
  have z_v_120 : h0.size ≤ v_120 := Nat.le_trans (Nat.le_trans (Nat.le_trans (Nat.le_trans (Nat.le_trans (Nat.le_trans (Nat.le_trans (Nat.le_refl _) E101.1) (Nat.le_of_eq W105.size.symm)) (Nat.le_of_eq W109.size.symm)) (Nat.le_of_eq W113.size.symm)) (Nat.le_of_eq W117.size.symm)) E118.1) B120_0
  have K123 : Keep h0 T120.heap [] := ((((((((Keep.refl h0 []).ext E101).wr W105 (Or.inr z_b101)).wr W109 (Or.inr z_b101)).wr W113 (Or.inr z_b101)).wr W117 (Or.inr z_b101)).ext E118).trans K120 (allS (Or.inr z_b118) all0))
  have c124 : Exa Z T120.heap b118 "java/lang/String" := (Exa.keep A118 K120)
  exact Go.retA C X120 rfl d2_103 rfl rfl rfl ⟨b118, v_120, kv_120, rfl, N120, K123, z_b118, z_v_120, c124, P120_0, P120_1, P120_2⟩ (by decide) (by decide)
def Q_st14 (Z : State) (x0 : Int32) (x1 : Int32) (x2 : Int32) (x3 : Int32) (cP : Int32) (h0 : Heap) (rv : Option Value) (h : Heap) (L : List Loc) : Prop := ∃ r : Addr, ∃ v : Addr, ∃ kv : ClassId, rv = some (.ref r) ∧ Fr Z.heap.size L ∧ Keep h0 h [] ∧ h0.size ≤ r ∧ h0.size ≤ v ∧ Exa Z h r "java/lang/String" ∧ Fld Z h r "java/lang/String" "value" "[B" (.ref v) ∧ Fld Z h r "java/lang/String" "coder" "B" (.int (0 : Int32)) ∧ AL Z h v kv .byte (by8 [x1, x2, x3])
theorem rm_st14 (l : Launch) (Z : State) (a0 : Array Value) (hw : ∀ d ∈ tables_1, d.before a0 Z = true) (x0 : Int32) (x1 : Int32) (x2 : Int32) (x3 : Int32) (cP : Int32) (h0 : Heap) (O0 : Ext Z.heap h0) (SC : Sta Z Z.heap "java/lang/String" "COMPACT_STRINGS" "Z" (.int cP)) (hP : ¬ cP = (0 : Int32)) (hx0 : 0 ≤ x0.toInt ∧ x0.toInt ≤ 255) (hx1 : 0 ≤ x1.toInt ∧ x1.toInt ≤ 255) (hx2 : 0 ≤ x2.toInt ∧ x2.toInt ≤ 255) (hx3 : 0 ≤ x3.toInt ∧ x3.toInt ≤ 255) :
    Met1 l Z mN33 method_4_code 8 (some (.object "java/lang/String")) ({ frames := 4, cells := 3, slots := 11, locals := 66 } : Room) #[(.int x0), (.int x1), (.int x2), (.int x3), (.int (1 : Int32)), (.int (4 : Int32))] h0 (Q_st14 Z x0 x1 x2 x3 cP h0) := by
  refine Met1.of_body (Ls := #[.val (.int x0), .val (.int x1), .val (.int x2), .val (.int x3), .val (.int (1 : Int32)), .val (.int (4 : Int32)), .unset, .unset]) pf_2 (fun m => by first | (simp [entryFrame, mkF, argsToLocals, Value.category]; done) | rfl) ?_
  intro p e s m below meth c T0 C X0 e0
  have N0 : Fr Z.heap.size [] := Fr.nil _
  refine Go.iload (pc' := 2) C X0 d2_0 rfl rfl ?_
  refine Go.iload (pc' := 4) C X0 d2_2 rfl rfl ?_
  refine Go.isub (pc' := 5) C X0 d2_4 rfl ?_
  rw [show ((4 : Int32) - (1 : Int32)) = (3 : Int32) from by decide]
  refine Go.istore (Ls' := #[.val (.int x0), .val (.int x1), .val (.int x2), .val (.int x3), .val (.int (1 : Int32)), .val (.int (4 : Int32)), .val (.int (3 : Int32)), .unset]) (pc' := 7) C X0 d2_5 rfl rfl ?_
  refine Go.iload (pc' := 9) C X0 d2_7 rfl rfl ?_
  refine Go.newP (aty := .char) (cap := 3) (vs := [(.int (0 : Int32)), (.int (0 : Int32)), (.int (0 : Int32))]) (ad := "[C") (pc' := 11) C X0 (by decide) (tw hw 8 rfl) e0 (by decide) (by decide) (by decide) (by decide) (by decide) rfl d2_9 rfl ?_
  intro T101 h101 b101 k101 X101 e101 g101 E101 A101 Ea101
  have n_b101 : Z.heap.size ≤ b101 := Nat.le_trans O0.1 (Nat.le_of_eq g101.symm)
  have z_b101 : h0.size ≤ b101 := Nat.le_trans (Nat.le_refl _) (Nat.le_of_eq g101.symm)
  have A101 : AL Z h101 b101 k101 .char [(.int (0 : Int32)), (.int (0 : Int32)), (.int (0 : Int32))] := A101
  refine Go.astore (Ls' := #[.val (.int x0), .val (.int x1), .val (.int x2), .val (.int x3), .val (.int (1 : Int32)), .val (.int (4 : Int32)), .val (.int (3 : Int32)), .val (.ref b101)]) (pc' := 13) C X101 d2_11 rfl rfl rfl ?_
  refine Go.iload (pc' := 15) C X101 d2_13 rfl rfl ?_
  refine Go.ifNo (pc' := 18) C X101 d2_15 ((if0 _ _).trans (tlt (x := (0 : Int32)) (y := (3 : Int32)) (by decide)).2.2.2) rfl ?_
  refine Go.aload (pc' := 20) C X101 d2_18 rfl rfl rfl ?_
  refine Go.iconst (z := (0 : Int32)) (pc' := 21) C X101 d2_20 rfl rfl ?_
  refine Go.iloadN (pc' := 22) C X101 d2_21 rfl rfl ?_
  refine Go.iloadN (pc' := 23) C X101 d2_22 rfl rfl ?_
  refine Go.iloadN (pc' := 24) C X101 d2_23 rfl rfl ?_
  refine Go.iloadN (pc' := 25) C X101 d2_24 rfl rfl ?_
  refine Go.iload (pc' := 27) C X101 d2_25 rfl rfl ?_
  have O104 : Ext Z.heap h101 := (Ext.trans O0 E101)
  refine Go.callS (y := mN32) (pc' := 30) C X101 (tw hw 83 rfl) (tw hw 84 rfl) (by decide) (rm_pk1 l Z a0 hw x0 x1 x2 x3 h101 O104 hx1) (tw hw 85 rfl) (tw hw 3 rfl) e101 (argsL := [(.int x0), (.int x1), (.int x2), (.int x3), (.int (1 : Int32))]) (rest := [(.int (0 : Int32)), (.ref b101)]) (W := 2) rfl rfl pd_9 rfl (Nat.le_of_eq rfl) rfl (by decide) (by decide) (by decide) (by decide) d2_27 rfl ?_
  intro T103 v103 L103 X103 q103
  obtain ⟨rfl, rfl, e103⟩ := q103
  have N103 := Fr.app N0 (Fr.nil _)
  refine Go.stC (i := 0) (x' := x1) (vs' := [(.int x1), (.int (0 : Int32)), (.int (0 : Int32))]) (pc' := 31) C X103 e103 A101 (by decide) (by decide) (by simp) (narcr hx1) rfl d2_30 rfl ?_
  intro T105 h105 X105 e105 W105 A105
  have N105 := Fr.snoc X105 N103 n_b101
  refine Go.iload (pc' := 33) C X105 d2_31 rfl rfl ?_
  refine Go.iconst (z := (1 : Int32)) (pc' := 34) C X105 d2_33 rfl rfl ?_
  refine Go.icmpNo (pc' := 37) C X105 d2_34 (tlt (x := (1 : Int32)) (y := (3 : Int32)) (by decide)).2.2.2 rfl ?_
  refine Go.aload (pc' := 39) C X105 d2_37 rfl rfl rfl ?_
  refine Go.iconst (z := (1 : Int32)) (pc' := 40) C X105 d2_39 rfl rfl ?_
  refine Go.iloadN (pc' := 41) C X105 d2_40 rfl rfl ?_
  refine Go.iloadN (pc' := 42) C X105 d2_41 rfl rfl ?_
  refine Go.iloadN (pc' := 43) C X105 d2_42 rfl rfl ?_
  refine Go.iloadN (pc' := 44) C X105 d2_43 rfl rfl ?_
  refine Go.iload (pc' := 46) C X105 d2_44 rfl rfl ?_
  refine Go.iconst (z := (1 : Int32)) (pc' := 47) C X105 d2_46 rfl rfl ?_
  refine Go.iadd (pc' := 48) C X105 d2_47 rfl ?_
  rw [show ((1 : Int32) + (1 : Int32)) = (2 : Int32) from by decide]
  have O108 : Ext Z.heap h105 := (Ext.wr O104 W105 n_b101)
  refine Go.callS (y := mN32) (pc' := 51) C X105 (tw hw 83 rfl) (tw hw 84 rfl) (by decide) (rm_pk2 l Z a0 hw x0 x1 x2 x3 h105 O108 hx2) (tw hw 85 rfl) (tw hw 3 rfl) e105 (argsL := [(.int x0), (.int x1), (.int x2), (.int x3), (.int (2 : Int32))]) (rest := [(.int (1 : Int32)), (.ref b101)]) (W := 2) rfl rfl pd_9 rfl (Nat.le_of_eq rfl) rfl (by decide) (by decide) (by decide) (by decide) d2_48 rfl ?_
  intro T107 v107 L107 X107 q107
  obtain ⟨rfl, rfl, e107⟩ := q107
  have N107 := Fr.app N105 (Fr.nil _)
  refine Go.stC (i := 1) (x' := x2) (vs' := [(.int x1), (.int x2), (.int (0 : Int32))]) (pc' := 52) C X107 e107 A105 (by decide) (by decide) (by simp) (narcr hx2) rfl d2_51 rfl ?_
  intro T109 h109 X109 e109 W109 A109
  have N109 := Fr.snoc X109 N107 n_b101
  refine Go.iload (pc' := 54) C X109 d2_52 rfl rfl ?_
  refine Go.iconst (z := (2 : Int32)) (pc' := 55) C X109 d2_54 rfl rfl ?_
  refine Go.icmpNo (pc' := 58) C X109 d2_55 (tlt (x := (2 : Int32)) (y := (3 : Int32)) (by decide)).2.2.2 rfl ?_
  refine Go.aload (pc' := 60) C X109 d2_58 rfl rfl rfl ?_
  refine Go.iconst (z := (2 : Int32)) (pc' := 61) C X109 d2_60 rfl rfl ?_
  refine Go.iloadN (pc' := 62) C X109 d2_61 rfl rfl ?_
  refine Go.iloadN (pc' := 63) C X109 d2_62 rfl rfl ?_
  refine Go.iloadN (pc' := 64) C X109 d2_63 rfl rfl ?_
  refine Go.iloadN (pc' := 65) C X109 d2_64 rfl rfl ?_
  refine Go.iload (pc' := 67) C X109 d2_65 rfl rfl ?_
  refine Go.iconst (z := (2 : Int32)) (pc' := 68) C X109 d2_67 rfl rfl ?_
  refine Go.iadd (pc' := 69) C X109 d2_68 rfl ?_
  rw [show ((1 : Int32) + (2 : Int32)) = (3 : Int32) from by decide]
  have O112 : Ext Z.heap h109 := (Ext.wr O108 W109 n_b101)
  refine Go.callS (y := mN32) (pc' := 72) C X109 (tw hw 83 rfl) (tw hw 84 rfl) (by decide) (rm_pk3 l Z a0 hw x0 x1 x2 x3 h109 O112 hx3) (tw hw 85 rfl) (tw hw 3 rfl) e109 (argsL := [(.int x0), (.int x1), (.int x2), (.int x3), (.int (3 : Int32))]) (rest := [(.int (2 : Int32)), (.ref b101)]) (W := 2) rfl rfl pd_9 rfl (Nat.le_of_eq rfl) rfl (by decide) (by decide) (by decide) (by decide) d2_69 rfl ?_
  intro T111 v111 L111 X111 q111
  obtain ⟨rfl, rfl, e111⟩ := q111
  have N111 := Fr.app N109 (Fr.nil _)
  refine Go.stC (i := 2) (x' := x3) (vs' := [(.int x1), (.int x2), (.int x3)]) (pc' := 73) C X111 e111 A109 (by decide) (by decide) (by simp) (narcr hx3) rfl d2_72 rfl ?_
  intro T113 h113 X113 e113 W113 A113
  have N113 := Fr.snoc X113 N111 n_b101
  refine Go.iload (pc' := 75) C X113 d2_73 rfl rfl ?_
  refine Go.iconst (z := (3 : Int32)) (pc' := 76) C X113 d2_75 rfl rfl ?_
  refine Go.icmpYes (pc' := 94) C X113 d2_76 (flt (x := (3 : Int32)) (y := (3 : Int32)) (by decide)).2.2.2 (by decide) (by decide) ?_
  have O116 : Ext Z.heap h113 := (Ext.wr O112 W113 n_b101)
  refine Go.newO (pc' := 97) C X113 (tw hw 9 rfl) (tw hw 10 rfl) (tw hw 11 rfl) e113 (by decide) (by decide) d2_94 rfl ?_
  intro T115 h115 b115 X115 e115 g115 E115 A115 D115
  have n_b115 : Z.heap.size ≤ b115 := Nat.le_trans O116.1 (Nat.le_of_eq g115.symm)
  have z_b115 : h0.size ≤ b115 := Nat.le_trans (Nat.le_trans (Nat.le_trans (Nat.le_trans (Nat.le_trans (Nat.le_refl _) E101.1) (Nat.le_of_eq W105.size.symm)) (Nat.le_of_eq W109.size.symm)) (Nat.le_of_eq W113.size.symm)) (Nat.le_of_eq g115.symm)
  have F115_value : Fld Z h115 b115 "java/lang/String" "value" "[B" .null := D115 (Or.inr (tw hw 24 rfl)) (ty := (.array .byte)) (by decide)
  have F115_coder : Fld Z h115 b115 "java/lang/String" "coder" "B" (.int (0 : Int32)) := D115 (Or.inr (tw hw 25 rfl)) (ty := .byte) (by decide)
  refine Go.dup (pc' := 98) C X115 d2_97 rfl rfl ?_
  refine Go.aload (pc' := 100) C X115 d2_98 rfl rfl rfl ?_
  have c118 : AL Z h115 b101 k101 .char [(.int x1), (.int x2), (.int x3)] := (AL.ext E115 A113)
  have O119 : Ext Z.heap h115 := (Ext.trans O116 E115)
  refine Go.callI (y := mN2) (a := b115) (pc' := 103) C X115 rfl (tw hw 12 rfl) (tw hw 13 rfl) (by decide) (rm_sI1 l Z a0 hw b115 b101 k101 ([x1, x2, x3]) cP h115 O119 A115 F115_value F115_coder (show AL Z h115 b101 k101 .char (ch16 [x1, x2, x3]) from c118) SC (all3 hx1 hx2 hx3) (show (3 : Nat) < 2 ^ 31 from by decide) (show (3 : Nat) ≤ 4 from by decide) (show ¬ (3 : Nat).toInt32 = (0 : Int32) from by decide) hP n_b115) (tw hw 14 rfl) (tw hw 11 rfl) e115 (argsL := [(.ref b101)]) (rest := [(.ref b115)]) (W := 1) rfl rfl pd_8 rfl (Nat.le_of_eq rfl) rfl (by decide) (by decide) (by decide) (by decide) rfl d2_100 rfl ?_
  intro T117 v117 L117 X117 q117
  obtain ⟨v_117, kv_117, rfl, N117q, K117, B117_0, P117_0, P117_1, P117_2⟩ := q117
  have N117 := Fr.app N113 N117q
  have n_v_117 : Z.heap.size ≤ v_117 := Nat.le_trans O119.1 B117_0
  have z_v_117 : h0.size ≤ v_117 := Nat.le_trans (Nat.le_trans (Nat.le_trans (Nat.le_trans (Nat.le_trans (Nat.le_trans (Nat.le_refl _) E101.1) (Nat.le_of_eq W105.size.symm)) (Nat.le_of_eq W109.size.symm)) (Nat.le_of_eq W113.size.symm)) E115.1) B117_0
  have K120 : Keep h0 T117.heap [] := (((((((Keep.refl h0 []).ext E101).wr W105 (Or.inr z_b101)).wr W109 (Or.inr z_b101)).wr W113 (Or.inr z_b101)).ext E115).trans K117 (allS (Or.inr z_b115) all0))
  have c121 : Exa Z T117.heap b115 "java/lang/String" := (Exa.keep A115 K117)
  exact Go.retA C X117 rfl d2_103 rfl rfl rfl ⟨b115, v_117, kv_117, rfl, N117, K120, z_b115, z_v_117, c121, P117_0, P117_1, P117_2⟩ (by decide) (by decide)
def Q_st24 (Z : State) (x0 : Int32) (x1 : Int32) (x2 : Int32) (x3 : Int32) (cP : Int32) (h0 : Heap) (rv : Option Value) (h : Heap) (L : List Loc) : Prop := ∃ r : Addr, ∃ v : Addr, ∃ kv : ClassId, rv = some (.ref r) ∧ Fr Z.heap.size L ∧ Keep h0 h [] ∧ h0.size ≤ r ∧ h0.size ≤ v ∧ Exa Z h r "java/lang/String" ∧ Fld Z h r "java/lang/String" "value" "[B" (.ref v) ∧ Fld Z h r "java/lang/String" "coder" "B" (.int (0 : Int32)) ∧ AL Z h v kv .byte (by8 [x2, x3])
theorem rm_st24 (l : Launch) (Z : State) (a0 : Array Value) (hw : ∀ d ∈ tables_1, d.before a0 Z = true) (x0 : Int32) (x1 : Int32) (x2 : Int32) (x3 : Int32) (cP : Int32) (h0 : Heap) (O0 : Ext Z.heap h0) (SC : Sta Z Z.heap "java/lang/String" "COMPACT_STRINGS" "Z" (.int cP)) (hP : ¬ cP = (0 : Int32)) (hx0 : 0 ≤ x0.toInt ∧ x0.toInt ≤ 255) (hx1 : 0 ≤ x1.toInt ∧ x1.toInt ≤ 255) (hx2 : 0 ≤ x2.toInt ∧ x2.toInt ≤ 255) (hx3 : 0 ≤ x3.toInt ∧ x3.toInt ≤ 255) :
    Met1 l Z mN33 method_4_code 8 (some (.object "java/lang/String")) ({ frames := 4, cells := 3, slots := 10, locals := 66 } : Room) #[(.int x0), (.int x1), (.int x2), (.int x3), (.int (2 : Int32)), (.int (4 : Int32))] h0 (Q_st24 Z x0 x1 x2 x3 cP h0) := by
  refine Met1.of_body (Ls := #[.val (.int x0), .val (.int x1), .val (.int x2), .val (.int x3), .val (.int (2 : Int32)), .val (.int (4 : Int32)), .unset, .unset]) pf_2 (fun m => by first | (simp [entryFrame, mkF, argsToLocals, Value.category]; done) | rfl) ?_
  intro p e s m below meth c T0 C X0 e0
  have N0 : Fr Z.heap.size [] := Fr.nil _
  refine Go.iload (pc' := 2) C X0 d2_0 rfl rfl ?_
  refine Go.iload (pc' := 4) C X0 d2_2 rfl rfl ?_
  refine Go.isub (pc' := 5) C X0 d2_4 rfl ?_
  rw [show ((4 : Int32) - (2 : Int32)) = (2 : Int32) from by decide]
  refine Go.istore (Ls' := #[.val (.int x0), .val (.int x1), .val (.int x2), .val (.int x3), .val (.int (2 : Int32)), .val (.int (4 : Int32)), .val (.int (2 : Int32)), .unset]) (pc' := 7) C X0 d2_5 rfl rfl ?_
  refine Go.iload (pc' := 9) C X0 d2_7 rfl rfl ?_
  refine Go.newP (aty := .char) (cap := 2) (vs := [(.int (0 : Int32)), (.int (0 : Int32))]) (ad := "[C") (pc' := 11) C X0 (by decide) (tw hw 8 rfl) e0 (by decide) (by decide) (by decide) (by decide) (by decide) rfl d2_9 rfl ?_
  intro T101 h101 b101 k101 X101 e101 g101 E101 A101 Ea101
  have n_b101 : Z.heap.size ≤ b101 := Nat.le_trans O0.1 (Nat.le_of_eq g101.symm)
  have z_b101 : h0.size ≤ b101 := Nat.le_trans (Nat.le_refl _) (Nat.le_of_eq g101.symm)
  have A101 : AL Z h101 b101 k101 .char [(.int (0 : Int32)), (.int (0 : Int32))] := A101
  refine Go.astore (Ls' := #[.val (.int x0), .val (.int x1), .val (.int x2), .val (.int x3), .val (.int (2 : Int32)), .val (.int (4 : Int32)), .val (.int (2 : Int32)), .val (.ref b101)]) (pc' := 13) C X101 d2_11 rfl rfl rfl ?_
  refine Go.iload (pc' := 15) C X101 d2_13 rfl rfl ?_
  refine Go.ifNo (pc' := 18) C X101 d2_15 ((if0 _ _).trans (tlt (x := (0 : Int32)) (y := (2 : Int32)) (by decide)).2.2.2) rfl ?_
  refine Go.aload (pc' := 20) C X101 d2_18 rfl rfl rfl ?_
  refine Go.iconst (z := (0 : Int32)) (pc' := 21) C X101 d2_20 rfl rfl ?_
  refine Go.iloadN (pc' := 22) C X101 d2_21 rfl rfl ?_
  refine Go.iloadN (pc' := 23) C X101 d2_22 rfl rfl ?_
  refine Go.iloadN (pc' := 24) C X101 d2_23 rfl rfl ?_
  refine Go.iloadN (pc' := 25) C X101 d2_24 rfl rfl ?_
  refine Go.iload (pc' := 27) C X101 d2_25 rfl rfl ?_
  have O104 : Ext Z.heap h101 := (Ext.trans O0 E101)
  refine Go.callS (y := mN32) (pc' := 30) C X101 (tw hw 83 rfl) (tw hw 84 rfl) (by decide) (rm_pk2 l Z a0 hw x0 x1 x2 x3 h101 O104 hx2) (tw hw 85 rfl) (tw hw 3 rfl) e101 (argsL := [(.int x0), (.int x1), (.int x2), (.int x3), (.int (2 : Int32))]) (rest := [(.int (0 : Int32)), (.ref b101)]) (W := 2) rfl rfl pd_9 rfl (Nat.le_of_eq rfl) rfl (by decide) (by decide) (by decide) (by decide) d2_27 rfl ?_
  intro T103 v103 L103 X103 q103
  obtain ⟨rfl, rfl, e103⟩ := q103
  have N103 := Fr.app N0 (Fr.nil _)
  refine Go.stC (i := 0) (x' := x2) (vs' := [(.int x2), (.int (0 : Int32))]) (pc' := 31) C X103 e103 A101 (by decide) (by decide) (by simp) (narcr hx2) rfl d2_30 rfl ?_
  intro T105 h105 X105 e105 W105 A105
  have N105 := Fr.snoc X105 N103 n_b101
  refine Go.iload (pc' := 33) C X105 d2_31 rfl rfl ?_
  refine Go.iconst (z := (1 : Int32)) (pc' := 34) C X105 d2_33 rfl rfl ?_
  refine Go.icmpNo (pc' := 37) C X105 d2_34 (tlt (x := (1 : Int32)) (y := (2 : Int32)) (by decide)).2.2.2 rfl ?_
  refine Go.aload (pc' := 39) C X105 d2_37 rfl rfl rfl ?_
  refine Go.iconst (z := (1 : Int32)) (pc' := 40) C X105 d2_39 rfl rfl ?_
  refine Go.iloadN (pc' := 41) C X105 d2_40 rfl rfl ?_
  refine Go.iloadN (pc' := 42) C X105 d2_41 rfl rfl ?_
  refine Go.iloadN (pc' := 43) C X105 d2_42 rfl rfl ?_
  refine Go.iloadN (pc' := 44) C X105 d2_43 rfl rfl ?_
  refine Go.iload (pc' := 46) C X105 d2_44 rfl rfl ?_
  refine Go.iconst (z := (1 : Int32)) (pc' := 47) C X105 d2_46 rfl rfl ?_
  refine Go.iadd (pc' := 48) C X105 d2_47 rfl ?_
  rw [show ((2 : Int32) + (1 : Int32)) = (3 : Int32) from by decide]
  have O108 : Ext Z.heap h105 := (Ext.wr O104 W105 n_b101)
  refine Go.callS (y := mN32) (pc' := 51) C X105 (tw hw 83 rfl) (tw hw 84 rfl) (by decide) (rm_pk3 l Z a0 hw x0 x1 x2 x3 h105 O108 hx3) (tw hw 85 rfl) (tw hw 3 rfl) e105 (argsL := [(.int x0), (.int x1), (.int x2), (.int x3), (.int (3 : Int32))]) (rest := [(.int (1 : Int32)), (.ref b101)]) (W := 2) rfl rfl pd_9 rfl (Nat.le_of_eq rfl) rfl (by decide) (by decide) (by decide) (by decide) d2_48 rfl ?_
  intro T107 v107 L107 X107 q107
  obtain ⟨rfl, rfl, e107⟩ := q107
  have N107 := Fr.app N105 (Fr.nil _)
  refine Go.stC (i := 1) (x' := x3) (vs' := [(.int x2), (.int x3)]) (pc' := 52) C X107 e107 A105 (by decide) (by decide) (by simp) (narcr hx3) rfl d2_51 rfl ?_
  intro T109 h109 X109 e109 W109 A109
  have N109 := Fr.snoc X109 N107 n_b101
  refine Go.iload (pc' := 54) C X109 d2_52 rfl rfl ?_
  refine Go.iconst (z := (2 : Int32)) (pc' := 55) C X109 d2_54 rfl rfl ?_
  refine Go.icmpYes (pc' := 73) C X109 d2_55 (flt (x := (2 : Int32)) (y := (2 : Int32)) (by decide)).2.2.2 (by decide) (by decide) ?_
  refine Go.iload (pc' := 75) C X109 d2_73 rfl rfl ?_
  refine Go.iconst (z := (3 : Int32)) (pc' := 76) C X109 d2_75 rfl rfl ?_
  refine Go.icmpYes (pc' := 94) C X109 d2_76 (flt (x := (3 : Int32)) (y := (2 : Int32)) (by decide)).2.2.2 (by decide) (by decide) ?_
  have O113 : Ext Z.heap h109 := (Ext.wr O108 W109 n_b101)
  refine Go.newO (pc' := 97) C X109 (tw hw 9 rfl) (tw hw 10 rfl) (tw hw 11 rfl) e109 (by decide) (by decide) d2_94 rfl ?_
  intro T112 h112 b112 X112 e112 g112 E112 A112 D112
  have n_b112 : Z.heap.size ≤ b112 := Nat.le_trans O113.1 (Nat.le_of_eq g112.symm)
  have z_b112 : h0.size ≤ b112 := Nat.le_trans (Nat.le_trans (Nat.le_trans (Nat.le_trans (Nat.le_refl _) E101.1) (Nat.le_of_eq W105.size.symm)) (Nat.le_of_eq W109.size.symm)) (Nat.le_of_eq g112.symm)
  have F112_value : Fld Z h112 b112 "java/lang/String" "value" "[B" .null := D112 (Or.inr (tw hw 24 rfl)) (ty := (.array .byte)) (by decide)
  have F112_coder : Fld Z h112 b112 "java/lang/String" "coder" "B" (.int (0 : Int32)) := D112 (Or.inr (tw hw 25 rfl)) (ty := .byte) (by decide)
  refine Go.dup (pc' := 98) C X112 d2_97 rfl rfl ?_
  refine Go.aload (pc' := 100) C X112 d2_98 rfl rfl rfl ?_
  have c115 : AL Z h112 b101 k101 .char [(.int x2), (.int x3)] := (AL.ext E112 A109)
  have O116 : Ext Z.heap h112 := (Ext.trans O113 E112)
  refine Go.callI (y := mN2) (a := b112) (pc' := 103) C X112 rfl (tw hw 12 rfl) (tw hw 13 rfl) (by decide) (rm_sI1 l Z a0 hw b112 b101 k101 ([x2, x3]) cP h112 O116 A112 F112_value F112_coder (show AL Z h112 b101 k101 .char (ch16 [x2, x3]) from c115) SC (all2 hx2 hx3) (show (2 : Nat) < 2 ^ 31 from by decide) (show (2 : Nat) ≤ 4 from by decide) (show ¬ (2 : Nat).toInt32 = (0 : Int32) from by decide) hP n_b112) (tw hw 14 rfl) (tw hw 11 rfl) e112 (argsL := [(.ref b101)]) (rest := [(.ref b112)]) (W := 1) rfl rfl pd_8 rfl (Nat.le_of_eq rfl) rfl (by decide) (by decide) (by decide) (by decide) rfl d2_100 rfl ?_
  intro T114 v114 L114 X114 q114
  obtain ⟨v_114, kv_114, rfl, N114q, K114, B114_0, P114_0, P114_1, P114_2⟩ := q114
  have N114 := Fr.app N109 N114q
  have n_v_114 : Z.heap.size ≤ v_114 := Nat.le_trans O116.1 B114_0
  have z_v_114 : h0.size ≤ v_114 := Nat.le_trans (Nat.le_trans (Nat.le_trans (Nat.le_trans (Nat.le_trans (Nat.le_refl _) E101.1) (Nat.le_of_eq W105.size.symm)) (Nat.le_of_eq W109.size.symm)) E112.1) B114_0
  have K117 : Keep h0 T114.heap [] := ((((((Keep.refl h0 []).ext E101).wr W105 (Or.inr z_b101)).wr W109 (Or.inr z_b101)).ext E112).trans K114 (allS (Or.inr z_b112) all0))
  have c118 : Exa Z T114.heap b112 "java/lang/String" := (Exa.keep A112 K114)
  exact Go.retA C X114 rfl d2_103 rfl rfl rfl ⟨b112, v_114, kv_114, rfl, N114, K117, z_b112, z_v_114, c118, P114_0, P114_1, P114_2⟩ (by decide) (by decide)
def Q_st34 (Z : State) (x0 : Int32) (x1 : Int32) (x2 : Int32) (x3 : Int32) (cP : Int32) (h0 : Heap) (rv : Option Value) (h : Heap) (L : List Loc) : Prop := ∃ r : Addr, ∃ v : Addr, ∃ kv : ClassId, rv = some (.ref r) ∧ Fr Z.heap.size L ∧ Keep h0 h [] ∧ h0.size ≤ r ∧ h0.size ≤ v ∧ Exa Z h r "java/lang/String" ∧ Fld Z h r "java/lang/String" "value" "[B" (.ref v) ∧ Fld Z h r "java/lang/String" "coder" "B" (.int (0 : Int32)) ∧ AL Z h v kv .byte (by8 [x3])
theorem rm_st34 (l : Launch) (Z : State) (a0 : Array Value) (hw : ∀ d ∈ tables_1, d.before a0 Z = true) (x0 : Int32) (x1 : Int32) (x2 : Int32) (x3 : Int32) (cP : Int32) (h0 : Heap) (O0 : Ext Z.heap h0) (SC : Sta Z Z.heap "java/lang/String" "COMPACT_STRINGS" "Z" (.int cP)) (hP : ¬ cP = (0 : Int32)) (hx0 : 0 ≤ x0.toInt ∧ x0.toInt ≤ 255) (hx1 : 0 ≤ x1.toInt ∧ x1.toInt ≤ 255) (hx2 : 0 ≤ x2.toInt ∧ x2.toInt ≤ 255) (hx3 : 0 ≤ x3.toInt ∧ x3.toInt ≤ 255) :
    Met1 l Z mN33 method_4_code 8 (some (.object "java/lang/String")) ({ frames := 4, cells := 3, slots := 9, locals := 66 } : Room) #[(.int x0), (.int x1), (.int x2), (.int x3), (.int (3 : Int32)), (.int (4 : Int32))] h0 (Q_st34 Z x0 x1 x2 x3 cP h0) := by
  refine Met1.of_body (Ls := #[.val (.int x0), .val (.int x1), .val (.int x2), .val (.int x3), .val (.int (3 : Int32)), .val (.int (4 : Int32)), .unset, .unset]) pf_2 (fun m => by first | (simp [entryFrame, mkF, argsToLocals, Value.category]; done) | rfl) ?_
  intro p e s m below meth c T0 C X0 e0
  have N0 : Fr Z.heap.size [] := Fr.nil _
  refine Go.iload (pc' := 2) C X0 d2_0 rfl rfl ?_
  refine Go.iload (pc' := 4) C X0 d2_2 rfl rfl ?_
  refine Go.isub (pc' := 5) C X0 d2_4 rfl ?_
  rw [show ((4 : Int32) - (3 : Int32)) = (1 : Int32) from by decide]
  refine Go.istore (Ls' := #[.val (.int x0), .val (.int x1), .val (.int x2), .val (.int x3), .val (.int (3 : Int32)), .val (.int (4 : Int32)), .val (.int (1 : Int32)), .unset]) (pc' := 7) C X0 d2_5 rfl rfl ?_
  refine Go.iload (pc' := 9) C X0 d2_7 rfl rfl ?_
  refine Go.newP (aty := .char) (cap := 1) (vs := [(.int (0 : Int32))]) (ad := "[C") (pc' := 11) C X0 (by decide) (tw hw 8 rfl) e0 (by decide) (by decide) (by decide) (by decide) (by decide) rfl d2_9 rfl ?_
  intro T101 h101 b101 k101 X101 e101 g101 E101 A101 Ea101
  have n_b101 : Z.heap.size ≤ b101 := Nat.le_trans O0.1 (Nat.le_of_eq g101.symm)
  have z_b101 : h0.size ≤ b101 := Nat.le_trans (Nat.le_refl _) (Nat.le_of_eq g101.symm)
  have A101 : AL Z h101 b101 k101 .char [(.int (0 : Int32))] := A101
  refine Go.astore (Ls' := #[.val (.int x0), .val (.int x1), .val (.int x2), .val (.int x3), .val (.int (3 : Int32)), .val (.int (4 : Int32)), .val (.int (1 : Int32)), .val (.ref b101)]) (pc' := 13) C X101 d2_11 rfl rfl rfl ?_
  refine Go.iload (pc' := 15) C X101 d2_13 rfl rfl ?_
  refine Go.ifNo (pc' := 18) C X101 d2_15 ((if0 _ _).trans (tlt (x := (0 : Int32)) (y := (1 : Int32)) (by decide)).2.2.2) rfl ?_
  refine Go.aload (pc' := 20) C X101 d2_18 rfl rfl rfl ?_
  refine Go.iconst (z := (0 : Int32)) (pc' := 21) C X101 d2_20 rfl rfl ?_
  refine Go.iloadN (pc' := 22) C X101 d2_21 rfl rfl ?_
  refine Go.iloadN (pc' := 23) C X101 d2_22 rfl rfl ?_
  refine Go.iloadN (pc' := 24) C X101 d2_23 rfl rfl ?_
  refine Go.iloadN (pc' := 25) C X101 d2_24 rfl rfl ?_
  refine Go.iload (pc' := 27) C X101 d2_25 rfl rfl ?_
  have O104 : Ext Z.heap h101 := (Ext.trans O0 E101)
  refine Go.callS (y := mN32) (pc' := 30) C X101 (tw hw 83 rfl) (tw hw 84 rfl) (by decide) (rm_pk3 l Z a0 hw x0 x1 x2 x3 h101 O104 hx3) (tw hw 85 rfl) (tw hw 3 rfl) e101 (argsL := [(.int x0), (.int x1), (.int x2), (.int x3), (.int (3 : Int32))]) (rest := [(.int (0 : Int32)), (.ref b101)]) (W := 2) rfl rfl pd_9 rfl (Nat.le_of_eq rfl) rfl (by decide) (by decide) (by decide) (by decide) d2_27 rfl ?_
  intro T103 v103 L103 X103 q103
  obtain ⟨rfl, rfl, e103⟩ := q103
  have N103 := Fr.app N0 (Fr.nil _)
  refine Go.stC (i := 0) (x' := x3) (vs' := [(.int x3)]) (pc' := 31) C X103 e103 A101 (by decide) (by decide) (by simp) (narcr hx3) rfl d2_30 rfl ?_
  intro T105 h105 X105 e105 W105 A105
  have N105 := Fr.snoc X105 N103 n_b101
  refine Go.iload (pc' := 33) C X105 d2_31 rfl rfl ?_
  refine Go.iconst (z := (1 : Int32)) (pc' := 34) C X105 d2_33 rfl rfl ?_
  refine Go.icmpYes (pc' := 52) C X105 d2_34 (flt (x := (1 : Int32)) (y := (1 : Int32)) (by decide)).2.2.2 (by decide) (by decide) ?_
  refine Go.iload (pc' := 54) C X105 d2_52 rfl rfl ?_
  refine Go.iconst (z := (2 : Int32)) (pc' := 55) C X105 d2_54 rfl rfl ?_
  refine Go.icmpYes (pc' := 73) C X105 d2_55 (flt (x := (2 : Int32)) (y := (1 : Int32)) (by decide)).2.2.2 (by decide) (by decide) ?_
  refine Go.iload (pc' := 75) C X105 d2_73 rfl rfl ?_
  refine Go.iconst (z := (3 : Int32)) (pc' := 76) C X105 d2_75 rfl rfl ?_
  refine Go.icmpYes (pc' := 94) C X105 d2_76 (flt (x := (3 : Int32)) (y := (1 : Int32)) (by decide)).2.2.2 (by decide) (by decide) ?_
  have O110 : Ext Z.heap h105 := (Ext.wr O104 W105 n_b101)
  refine Go.newO (pc' := 97) C X105 (tw hw 9 rfl) (tw hw 10 rfl) (tw hw 11 rfl) e105 (by decide) (by decide) d2_94 rfl ?_
  intro T109 h109 b109 X109 e109 g109 E109 A109 D109
  have n_b109 : Z.heap.size ≤ b109 := Nat.le_trans O110.1 (Nat.le_of_eq g109.symm)
  have z_b109 : h0.size ≤ b109 := Nat.le_trans (Nat.le_trans (Nat.le_trans (Nat.le_refl _) E101.1) (Nat.le_of_eq W105.size.symm)) (Nat.le_of_eq g109.symm)
  have F109_value : Fld Z h109 b109 "java/lang/String" "value" "[B" .null := D109 (Or.inr (tw hw 24 rfl)) (ty := (.array .byte)) (by decide)
  have F109_coder : Fld Z h109 b109 "java/lang/String" "coder" "B" (.int (0 : Int32)) := D109 (Or.inr (tw hw 25 rfl)) (ty := .byte) (by decide)
  refine Go.dup (pc' := 98) C X109 d2_97 rfl rfl ?_
  refine Go.aload (pc' := 100) C X109 d2_98 rfl rfl rfl ?_
  have c112 : AL Z h109 b101 k101 .char [(.int x3)] := (AL.ext E109 A105)
  have O113 : Ext Z.heap h109 := (Ext.trans O110 E109)
  refine Go.callI (y := mN2) (a := b109) (pc' := 103) C X109 rfl (tw hw 12 rfl) (tw hw 13 rfl) (by decide) (rm_sI1 l Z a0 hw b109 b101 k101 [x3] cP h109 O113 A109 F109_value F109_coder (show AL Z h109 b101 k101 .char (ch16 [x3]) from c112) SC (all1 hx3) (show (1 : Nat) < 2 ^ 31 from by decide) (show (1 : Nat) ≤ 4 from by decide) (show ¬ (1 : Nat).toInt32 = (0 : Int32) from by decide) hP n_b109) (tw hw 14 rfl) (tw hw 11 rfl) e109 (argsL := [(.ref b101)]) (rest := [(.ref b109)]) (W := 1) rfl rfl pd_8 rfl (Nat.le_of_eq rfl) rfl (by decide) (by decide) (by decide) (by decide) rfl d2_100 rfl ?_
  intro T111 v111 L111 X111 q111
  obtain ⟨v_111, kv_111, rfl, N111q, K111, B111_0, P111_0, P111_1, P111_2⟩ := q111
  have N111 := Fr.app N105 N111q
  have n_v_111 : Z.heap.size ≤ v_111 := Nat.le_trans O113.1 B111_0
  have z_v_111 : h0.size ≤ v_111 := Nat.le_trans (Nat.le_trans (Nat.le_trans (Nat.le_trans (Nat.le_refl _) E101.1) (Nat.le_of_eq W105.size.symm)) E109.1) B111_0
  have K114 : Keep h0 T111.heap [] := (((((Keep.refl h0 []).ext E101).wr W105 (Or.inr z_b101)).ext E109).trans K111 (allS (Or.inr z_b109) all0))
  have c115 : Exa Z T111.heap b109 "java/lang/String" := (Exa.keep A109 K111)
  exact Go.retA C X111 rfl d2_103 rfl rfl rfl ⟨b109, v_111, kv_111, rfl, N111, K114, z_b109, z_v_111, c115, P111_0, P111_1, P111_2⟩ (by decide) (by decide)
def Q_st44 (Z : State) (x0 : Int32) (x1 : Int32) (x2 : Int32) (x3 : Int32) (h0 : Heap) (rv : Option Value) (h : Heap) (L : List Loc) : Prop := ∃ r : Addr, ∃ v : Addr, ∃ kv : ClassId, rv = some (.ref r) ∧ Fr Z.heap.size L ∧ Keep h0 h [] ∧ h0.size ≤ r ∧ Exa Z h r "java/lang/String" ∧ Fld Z h r "java/lang/String" "value" "[B" (.ref v) ∧ Fld Z h r "java/lang/String" "coder" "B" (.int (0 : Int32)) ∧ AL Z h v kv .byte (by8 [])
theorem rm_st44 (l : Launch) (Z : State) (a0 : Array Value) (hw : ∀ d ∈ tables_1, d.before a0 Z = true) (x0 : Int32) (x1 : Int32) (x2 : Int32) (x3 : Int32) (h0 : Heap) (O0 : Ext Z.heap h0) :
    Met1H consts_1 [] l Z mN33 method_4_code 8 (some (.object "java/lang/String")) ({ frames := 3, cells := 6, slots := 12, locals := 43 } : Room) #[(.int x0), (.int x1), (.int x2), (.int x3), (.int (4 : Int32)), (.int (4 : Int32))] h0 (Q_st44 Z x0 x1 x2 x3 h0) := by
  refine Met1H.of_body (Ls := #[.val (.int x0), .val (.int x1), .val (.int x2), .val (.int x3), .val (.int (4 : Int32)), .val (.int (4 : Int32)), .unset, .unset]) pf_2 (fun m => by first | (simp [entryFrame, mkF, argsToLocals, Value.category]; done) | rfl) ?_
  intro p e s m below meth c T0 C X0 e0 hH0 hsf0
  have Hr0 := CHr.refl hH0
  have N0 : Fr Z.heap.size [] := Fr.nil _
  have Si0 : Sin s s h0 := Sin.start s h0
  refine Go.iload (pc' := 2) C X0 d2_0 rfl rfl ?_
  refine Go.iload (pc' := 4) C X0 d2_2 rfl rfl ?_
  refine Go.isub (pc' := 5) C X0 d2_4 rfl ?_
  rw [show ((4 : Int32) - (4 : Int32)) = (0 : Int32) from by decide]
  refine Go.istore (Ls' := #[.val (.int x0), .val (.int x1), .val (.int x2), .val (.int x3), .val (.int (4 : Int32)), .val (.int (4 : Int32)), .val (.int (0 : Int32)), .unset]) (pc' := 7) C X0 d2_5 rfl rfl ?_
  refine Go.iload (pc' := 9) C X0 d2_7 rfl rfl ?_
  refine Go.newP (aty := .char) (cap := 0) (vs := []) (ad := "[C") (pc' := 11) C X0 (by decide) (tw hw 8 rfl) e0 (by decide) (by decide) (by decide) (by decide) (by decide) rfl d2_9 rfl ?_
  intro T101 h101 b101 k101 X101 e101 g101 E101 A101 Ea101
  have Hr102 := CHr.trans Hr0 (CHr.ext E101 Hr0.1)
  have n_b101 : Z.heap.size ≤ b101 := Nat.le_trans O0.1 (Nat.le_of_eq g101.symm)
  have z_b101 : h0.size ≤ b101 := Nat.le_trans (Nat.le_refl _) (Nat.le_of_eq g101.symm)
  have s_b101 : Safe Z consts_1 s.vm h101 b101 := Safe.ext E101 Hr0.1 (Safe.new (Nat.le_of_eq g101.symm))
  have A101 : AL Z h101 b101 k101 .char [] := A101
  refine Go.astore (Ls' := #[.val (.int x0), .val (.int x1), .val (.int x2), .val (.int x3), .val (.int (4 : Int32)), .val (.int (4 : Int32)), .val (.int (0 : Int32)), .val (.ref b101)]) (pc' := 13) C X101 d2_11 rfl rfl rfl ?_
  refine Go.iload (pc' := 15) C X101 d2_13 rfl rfl ?_
  refine Go.ifYes (pc' := 31) C X101 d2_15 ((if0 _ _).trans (flt (x := (0 : Int32)) (y := (0 : Int32)) (by decide)).2.2.2) (by decide) (by decide) ?_
  refine Go.iload (pc' := 33) C X101 d2_31 rfl rfl ?_
  refine Go.iconst (z := (1 : Int32)) (pc' := 34) C X101 d2_33 rfl rfl ?_
  refine Go.icmpYes (pc' := 52) C X101 d2_34 (flt (x := (1 : Int32)) (y := (0 : Int32)) (by decide)).2.2.2 (by decide) (by decide) ?_
  refine Go.iload (pc' := 54) C X101 d2_52 rfl rfl ?_
  refine Go.iconst (z := (2 : Int32)) (pc' := 55) C X101 d2_54 rfl rfl ?_
  refine Go.icmpYes (pc' := 73) C X101 d2_55 (flt (x := (2 : Int32)) (y := (0 : Int32)) (by decide)).2.2.2 (by decide) (by decide) ?_
  refine Go.iload (pc' := 75) C X101 d2_73 rfl rfl ?_
  refine Go.iconst (z := (3 : Int32)) (pc' := 76) C X101 d2_75 rfl rfl ?_
  refine Go.icmpYes (pc' := 94) C X101 d2_76 (flt (x := (3 : Int32)) (y := (0 : Int32)) (by decide)).2.2.2 (by decide) (by decide) ?_
  have O108 : Ext Z.heap h101 := (Ext.trans O0 E101)
  refine Go.newO (pc' := 97) C X101 (tw hw 9 rfl) (tw hw 10 rfl) (tw hw 11 rfl) e101 (by decide) (by decide) d2_94 rfl ?_
  intro T107 h107 b107 X107 e107 g107 E107 A107 D107
  have Hr109 := CHr.trans Hr102 (CHr.ext E107 Hr102.1)
  have n_b107 : Z.heap.size ≤ b107 := Nat.le_trans O108.1 (Nat.le_of_eq g107.symm)
  have z_b107 : h0.size ≤ b107 := Nat.le_trans (Nat.le_trans (Nat.le_refl _) E101.1) (Nat.le_of_eq g107.symm)
  have s_b107 : Safe Z consts_1 s.vm h107 b107 := Safe.ext E107 Hr102.1 (Safe.new (Nat.le_of_eq g107.symm))
  have F107_value : Fld Z h107 b107 "java/lang/String" "value" "[B" .null := D107 (Or.inr (tw hw 24 rfl)) (ty := (.array .byte)) (by decide)
  have F107_coder : Fld Z h107 b107 "java/lang/String" "coder" "B" (.int (0 : Int32)) := D107 (Or.inr (tw hw 25 rfl)) (ty := .byte) (by decide)
  refine Go.dup (pc' := 98) C X107 d2_97 rfl rfl ?_
  refine Go.aload (pc' := 100) C X107 d2_98 rfl rfl rfl ?_
  have c111 : AL Z h107 b101 k101 .char [] := (AL.ext E107 A101)
  have O112 : Ext Z.heap h107 := (Ext.trans O108 E107)
  have Si113 : Sin s s h107 := Sin.mono Si0 (Nat.le_trans (Nat.le_trans (Nat.le_refl _) E101.1) E107.1)
  refine Go.callIH (y := mN2) (a := b107) (pc' := 103) C X107 Si113 (EWc hw) Hr109.1 rfl (tw hw 12 rfl) (tw hw 13 rfl) (by decide) (allS ⟨Nat.lt_of_lt_of_le A107.lt (Nat.le_refl _), s_b107⟩ all0) (rm_sI1z l Z a0 hw b107 b101 k101 h107 O112 A107 F107_value F107_coder c111 n_b107) (tw hw 14 rfl) (tw hw 11 rfl) e107 (argsL := [(.ref b101)]) (rest := [(.ref b107)]) (W := 1) rfl rfl pd_8 rfl (Nat.le_of_eq rfl) rfl (by decide) (by decide) (by decide) (by decide) rfl d2_100 rfl ?_
  intro T110 v110 L110 sC110 C110 X110 Si110 hR110 q110
  obtain ⟨v_110, kv_110, rfl, N110q, K110, P110_0, P110_1, P110_2⟩ := q110
  have N110 := Fr.app N0 N110q
  have Hr114 := CHr.trans Hr109 hR110
  have K115 : Keep h0 T110.heap [] := ((((Keep.refl h0 []).ext E101).ext E107).trans K110 (allS (Or.inr z_b107) all0))
  have c116 : Exa Z T110.heap b107 "java/lang/String" := (Exa.keep A107 K110)
  exact Go.retAH C110 X110 Si110 (EWc hw) Hr114 rfl d2_103 rfl rfl rfl ⟨b107, v_110, kv_110, rfl, N110, K115, z_b107, c116, P110_0, P110_1, P110_2⟩ (by decide) (by decide)
theorem pf_24 : plainFor mN29 = true := plainFor_of_name (by first | (simp [plainName, overriddenIn]; done) | decide +kernel)
theorem d24_0 : decode jdk_41_method_12_code 0 = .ok (.iload_n 0, 1) := by decide +kernel
theorem d24_1 : decode jdk_41_method_12_code 1 = .ok (.ifCond .lt 13, 3) := by decide +kernel
theorem d24_4 : decode jdk_41_method_12_code 4 = .ok (.iload_n 0, 1) := by decide +kernel
theorem d24_5 : decode jdk_41_method_12_code 5 = .ok (.iload_n 1, 1) := by decide +kernel
theorem d24_6 : decode jdk_41_method_12_code 6 = .ok (.if_icmp .gt 8, 3) := by decide +kernel
theorem d24_9 : decode jdk_41_method_12_code 9 = .ok (.iload_n 1, 1) := by decide +kernel
theorem d24_10 : decode jdk_41_method_12_code 10 = .ok (.iload_n 2, 1) := by decide +kernel
theorem d24_11 : decode jdk_41_method_12_code 11 = .ok (.if_icmp .le 11, 3) := by decide +kernel
theorem d24_22 : decode jdk_41_method_12_code 22 = .ok (.iload_n 0, 1) := by decide +kernel
theorem d24_23 : decode jdk_41_method_12_code 23 = .ok (.ireturn, 1) := by decide +kernel
def Q_cft (Z : State) (b0 : Int32) (n0 : Int32) (fm : Value) (h0 : Heap) (rv : Option Value) (h : Heap) (L : List Loc) : Prop := rv = some (.int b0) ∧ L = [] ∧ h = h0
theorem rm_cft (l : Launch) (Z : State) (a0 : Array Value) (hw : ∀ d ∈ tables_1, d.before a0 Z = true) (b0 : Int32) (n0 : Int32) (fm : Value) (h0 : Heap) (O0 : Ext Z.heap h0) (h1 : ¬ b0 < (0 : Int32)) (h2 : ¬ n0 < b0) (hfm : fm.category = 1) :
    Met1 l Z mN29 jdk_41_method_12_code 4 (some .int) ({ frames := 0, cells := 0, slots := 0, locals := 0 } : Room) #[(.int b0), (.int n0), (.int n0), fm] h0 (Q_cft Z b0 n0 fm h0) := by
  refine Met1.of_body (Ls := #[.val (.int b0), .val (.int n0), .val (.int n0), .val fm]) pf_24 (fun m => by first | (simp [entryFrame, mkF, argsToLocals, Value.category]; done) | rfl | (cases fm <;> first | (simp [Value.category] at hfm; done) | rfl)) ?_
  intro p e s m below meth c T0 C X0 e0
  have N0 : Fr Z.heap.size [] := Fr.nil _
  refine Go.iloadN (pc' := 1) C X0 d24_0 rfl rfl ?_
  refine Go.ifNo (pc' := 4) C X0 d24_1 ((if0 _ _).trans (flt (x := b0) (y := (0 : Int32)) h1).1) rfl ?_
  refine Go.iloadN (pc' := 5) C X0 d24_4 rfl rfl ?_
  refine Go.iloadN (pc' := 6) C X0 d24_5 rfl rfl ?_
  refine Go.icmpNo (pc' := 9) C X0 d24_6 (flt (x := n0) (y := b0) h2).2.2.1 rfl ?_
  refine Go.iloadN (pc' := 10) C X0 d24_9 rfl rfl ?_
  refine Go.iloadN (pc' := 11) C X0 d24_10 rfl rfl ?_
  refine Go.icmpYes (pc' := 22) C X0 d24_11 (flt (x := n0) (y := n0) (by rw [Int32.lt_iff_toInt_lt]; omega)).2.2.2 (by decide) (by decide) ?_
  refine Go.iloadN (pc' := 23) C X0 d24_22 rfl rfl ?_
  exact Go.retI C X0 rfl d24_23 (by rw [e0]; exact ⟨rfl, rfl, rfl⟩) (by decide) (by decide)
theorem pd_10 : parseMethodDescriptor "(IIILjava/util/function/BiFunction;)I" = some ⟨[.int, .int, .int, (.object "java/util/function/BiFunction")], some .int⟩ := by decide +kernel
theorem pf_23 : plainFor mN4 = true := plainFor_of_name (by first | (simp [plainName, overriddenIn]; done) | decide +kernel)
theorem d23_0 : decode jdk_42_method_158_code 0 = .ok (.iload_n 0, 1) := by decide +kernel
theorem d23_1 : decode jdk_42_method_158_code 1 = .ok (.iload_n 1, 1) := by decide +kernel
theorem d23_2 : decode jdk_42_method_158_code 2 = .ok (.iload_n 2, 1) := by decide +kernel
theorem d23_3 : decode jdk_42_method_158_code 3 = .ok (.getstatic 1053, 3) := by decide +kernel
theorem d23_6 : decode jdk_42_method_158_code 6 = .ok (.invokestatic 1062, 3) := by decide +kernel
theorem d23_9 : decode jdk_42_method_158_code 9 = .ok (.pop, 1) := by decide +kernel
theorem d23_10 : decode jdk_42_method_158_code 10 = .ok (.return_, 1) := by decide +kernel
def Q_cbe (Z : State) (b0 : Int32) (n0 : Int32) (fm : Value) (h0 : Heap) (rv : Option Value) (h : Heap) (L : List Loc) : Prop := rv = none ∧ L = [] ∧ h = h0
theorem rm_cbe (l : Launch) (Z : State) (a0 : Array Value) (hw : ∀ d ∈ tables_1, d.before a0 Z = true) (b0 : Int32) (n0 : Int32) (fm : Value) (h0 : Heap) (O0 : Ext Z.heap h0) (SF : Sta Z Z.heap "jdk/internal/util/Preconditions" "SIOOBE_FORMATTER" "Ljava/util/function/BiFunction;" fm) (h1 : ¬ b0 < (0 : Int32)) (h2 : ¬ n0 < b0) (hfm : fm.category = 1) :
    Met1 l Z mN4 jdk_42_method_158_code 3 none ({ frames := 1, cells := 0, slots := 0, locals := 15 } : Room) #[(.int b0), (.int n0), (.int n0)] h0 (Q_cbe Z b0 n0 fm h0) := by
  refine Met1.of_body (Ls := #[.val (.int b0), .val (.int n0), .val (.int n0)]) pf_23 (fun m => by first | (simp [entryFrame, mkF, argsToLocals, Value.category]; done) | rfl) ?_
  intro p e s m below meth c T0 C X0 e0
  have N0 : Fr Z.heap.size [] := Fr.nil _
  refine Go.iloadN (pc' := 1) C X0 d23_0 rfl rfl ?_
  refine Go.iloadN (pc' := 2) C X0 d23_1 rfl rfl ?_
  refine Go.iloadN (pc' := 3) C X0 d23_2 rfl rfl ?_
  refine Go.getS (pc' := 6) (host := "") C X0 (Or.inl (tw hw 109 rfl)) Via.refl e0 (SF.ext O0) d23_3 rfl ?_
  intro T101 X101 e101
  refine Go.callS (y := mN29) (pc' := 9) C X101 (tw hw 111 rfl) (tw hw 112 rfl) (by decide) (rm_cft l Z a0 hw b0 n0 fm h0 O0 h1 h2 hfm) (tw hw 113 rfl) (tw hw 110 rfl) e101 (argsL := [(.int b0), (.int n0), (.int n0), fm]) (rest := []) (W := 0) rfl rfl pd_10 rfl (Nat.le_of_eq rfl) rfl (by decide) (by decide) (by decide) (by decide) d23_6 rfl ?_
  intro T102 v102 L102 X102 q102
  obtain ⟨rfl, rfl, e102⟩ := q102
  have N102 := Fr.app N0 (Fr.nil _)
  refine Go.pop (pc' := 10) C X102 d23_9 rfl rfl ?_
  exact Go.retV C X102 rfl d23_10 (by rw [e102]; exact ⟨rfl, (by simp), rfl⟩) (by decide) (by decide)
theorem pf_34 : plainFor mN20 = true := plainFor_of_name (by first | (simp [plainName, overriddenIn]; done) | decide +kernel)
theorem d34_0 : decode jdk_65_method_131_code 0 = .ok (.iload_n 1, 1) := by decide +kernel
theorem d34_1 : decode jdk_65_method_131_code 1 = .ok (.iload_n 0, 1) := by decide +kernel
theorem d34_2 : decode jdk_65_method_131_code 2 = .ok (.if_icmp .ge 35, 3) := by decide +kernel
theorem d34_37 : decode jdk_65_method_131_code 37 = .ok (.return_, 1) := by decide +kernel
def Q_ckl (Z : State) (b0 : Int32) (n0 : Int32) (h0 : Heap) (rv : Option Value) (h : Heap) (L : List Loc) : Prop := rv = none ∧ L = [] ∧ h = h0
theorem rm_ckl (l : Launch) (Z : State) (a0 : Array Value) (hw : ∀ d ∈ tables_1, d.before a0 Z = true) (b0 : Int32) (n0 : Int32) (h0 : Heap) (O0 : Ext Z.heap h0) (h2 : ¬ n0 < b0) :
    Met1 l Z mN20 jdk_65_method_131_code 2 none ({ frames := 0, cells := 0, slots := 0, locals := 0 } : Room) #[(.int b0), (.int n0)] h0 (Q_ckl Z b0 n0 h0) := by
  refine Met1.of_body (Ls := #[.val (.int b0), .val (.int n0)]) pf_34 (fun m => by first | (simp [entryFrame, mkF, argsToLocals, Value.category]; done) | rfl) ?_
  intro p e s m below meth c T0 C X0 e0
  have N0 : Fr Z.heap.size [] := Fr.nil _
  refine Go.iloadN (pc' := 1) C X0 d34_0 rfl rfl ?_
  refine Go.iloadN (pc' := 2) C X0 d34_1 rfl rfl ?_
  refine Go.icmpYes (pc' := 37) C X0 d34_2 (flt (x := n0) (y := b0) h2).2.1 (by decide) (by decide) ?_
  exact Go.retV C X0 rfl d34_37 (by rw [e0]; exact ⟨rfl, rfl, rfl⟩) (by decide) (by decide)
theorem pf_25 : plainFor mN16 = true := plainFor_of_name (by first | (simp [plainName, overriddenIn]; done) | decide +kernel)
theorem d25_0 : decode jdk_43_method_47_code 0 = .ok (.iload_n 2, 1) := by decide +kernel
theorem d25_1 : decode jdk_43_method_47_code 1 = .ok (.ifCond .ne 6, 3) := by decide +kernel
theorem d25_4 : decode jdk_43_method_47_code 4 = .ok (.ldc 151, 2) := by decide +kernel
theorem d25_6 : decode jdk_43_method_47_code 6 = .ok (.areturn, 1) := by decide +kernel
def Q_nst11 (Z : State) (v : Addr) (k : ClassId) (x0 : Int32) (h0 : Heap) (rv : Option Value) (h : Heap) (L : List Loc) : Prop := ∃ r : Addr, ∃ u : Addr, ∃ ku : ClassId, rv = some (.ref r) ∧ Fr Z.heap.size L ∧ Keep h0 h [] ∧ Exa Z h r "java/lang/String" ∧ Fld Z h r "java/lang/String" "value" "[B" (.ref u) ∧ Fld Z h r "java/lang/String" "coder" "B" (.int (0 : Int32)) ∧ AL Z h u ku .byte (by8 [])
theorem rm_nst11 (l : Launch) (Z : State) (a0 : Array Value) (hw : ∀ d ∈ tables_1, d.before a0 Z = true) (v : Addr) (k : ClassId) (x0 : Int32) (h0 : Heap) (O0 : Ext Z.heap h0) (Bx : AL Z h0 v k .byte (by8 [x0])) :
    Met1H consts_1 [] l Z mN16 jdk_43_method_47_code 3 (some (.object "java/lang/String")) ({ frames := 0, cells := 2, slots := 4, locals := 0 } : Room) #[(.ref v), (.int (1 : Int32)), (.int (0 : Int32))] h0 (Q_nst11 Z v k x0 h0) := by
  refine Met1H.of_body (Ls := #[.val (.ref v), .val (.int (1 : Int32)), .val (.int (0 : Int32))]) pf_25 (fun m => by first | (simp [entryFrame, mkF, argsToLocals, Value.category]; done) | rfl) ?_
  intro p e s m below meth c T0 C X0 e0 hH0 hsf0
  have Hr0 := CHr.refl hH0
  have N0 : Fr Z.heap.size [] := Fr.nil _
  have Si0 : Sin s s h0 := Sin.start s h0
  refine Go.iloadN (pc' := 1) C X0 d25_0 rfl rfl ?_
  refine Go.ifNo (pc' := 4) C X0 d25_1 ((if0 _ _).trans (teq (x := (0 : Int32)) (y := (0 : Int32)) (by decide)).2) rfl ?_
  refine Go.ldcH (pc' := 6) (n := 0) (vs := []) (z := (0 : Int32)) C X0 Si0 (EWc hw) Hr0.1 (tw hw 117 rfl) (wS hw) e0 (by decide) (by decide) (by decide) (by decide) (by decide) (by decide) (by decide) (by decide) d25_4 rfl ?_
  intro T102 h102 b102 sC102 v102 k102 C102 X102 e102 Si102 E102 hR102 A102 F102c F102v B102 hne102
  have Hr103 := CHr.trans Hr0 hR102
  have K104 : Keep h0 h102 [] := ((Keep.refl h0 []).ext E102)
  exact Go.retAH C102 X102 (by rw [e102]; exact Si102) (EWc hw) (by rw [e102]; exact Hr103) rfl d25_6 rfl rfl rfl (by rw [e102]; exact ⟨b102, v102, k102, rfl, N0, K104, A102, F102v, F102c, B102⟩) (by decide) (by decide)
theorem pd_11 : parseMethodDescriptor "()I" = some ⟨[], some .int⟩ := by decide +kernel
theorem pd_12 : parseMethodDescriptor "(III)V" = some ⟨[.int, .int, .int], none⟩ := by decide +kernel
theorem pd_13 : parseMethodDescriptor "()Z" = some ⟨[], some .boolean⟩ := by decide +kernel
theorem pd_14 : parseMethodDescriptor "([BII)Ljava/lang/String;" = some ⟨[(.array .byte), .int, .int], some (.object "java/lang/String")⟩ := by decide +kernel
theorem pf_22 : plainFor mN12 = true := plainFor_of_name (by first | (simp [plainName, overriddenIn]; done) | decide +kernel)
theorem d22_0 : decode jdk_42_method_92_code 0 = .ok (.aload_n 0, 1) := by decide +kernel
theorem d22_1 : decode jdk_42_method_92_code 1 = .ok (.invokevirtual 505, 3) := by decide +kernel
theorem d22_4 : decode jdk_42_method_92_code 4 = .ok (.istore_n 3, 1) := by decide +kernel
theorem d22_5 : decode jdk_42_method_92_code 5 = .ok (.iload_n 1, 1) := by decide +kernel
theorem d22_6 : decode jdk_42_method_92_code 6 = .ok (.iload_n 2, 1) := by decide +kernel
theorem d22_7 : decode jdk_42_method_92_code 7 = .ok (.iload_n 3, 1) := by decide +kernel
theorem d22_8 : decode jdk_42_method_92_code 8 = .ok (.invokestatic 521, 3) := by decide +kernel
theorem d22_11 : decode jdk_42_method_92_code 11 = .ok (.iload_n 1, 1) := by decide +kernel
theorem d22_12 : decode jdk_42_method_92_code 12 = .ok (.ifCond .ne 10, 3) := by decide +kernel
theorem d22_22 : decode jdk_42_method_92_code 22 = .ok (.iload_n 2, 1) := by decide +kernel
theorem d22_23 : decode jdk_42_method_92_code 23 = .ok (.iload_n 1, 1) := by decide +kernel
theorem d22_24 : decode jdk_42_method_92_code 24 = .ok (.isub, 1) := by decide +kernel
theorem d22_25 : decode jdk_42_method_92_code 25 = .ok (.istore 4, 2) := by decide +kernel
theorem d22_27 : decode jdk_42_method_92_code 27 = .ok (.aload_n 0, 1) := by decide +kernel
theorem d22_28 : decode jdk_42_method_92_code 28 = .ok (.invokevirtual 492, 3) := by decide +kernel
theorem d22_31 : decode jdk_42_method_92_code 31 = .ok (.ifCond .eq 16, 3) := by decide +kernel
theorem d22_34 : decode jdk_42_method_92_code 34 = .ok (.aload_n 0, 1) := by decide +kernel
theorem d22_35 : decode jdk_42_method_92_code 35 = .ok (.getfield 9, 3) := by decide +kernel
theorem d22_38 : decode jdk_42_method_92_code 38 = .ok (.iload_n 1, 1) := by decide +kernel
theorem d22_39 : decode jdk_42_method_92_code 39 = .ok (.iload 4, 2) := by decide +kernel
theorem d22_41 : decode jdk_42_method_92_code 41 = .ok (.invokestatic 685, 3) := by decide +kernel
theorem d22_44 : decode jdk_42_method_92_code 44 = .ok (.goto 13, 3) := by decide +kernel
theorem d22_57 : decode jdk_42_method_92_code 57 = .ok (.areturn, 1) := by decide +kernel
def Q_sub11 (Z : State) (s1 : Addr) (v : Addr) (k : ClassId) (x0 : Int32) (cP : Int32) (fm : Value) (h0 : Heap) (rv : Option Value) (h : Heap) (L : List Loc) : Prop := ∃ r : Addr, ∃ u : Addr, ∃ ku : ClassId, rv = some (.ref r) ∧ Fr Z.heap.size L ∧ Keep h0 h [] ∧ Exa Z h r "java/lang/String" ∧ Fld Z h r "java/lang/String" "value" "[B" (.ref u) ∧ Fld Z h r "java/lang/String" "coder" "B" (.int (0 : Int32)) ∧ AL Z h u ku .byte (by8 [])
theorem rm_sub11 (l : Launch) (Z : State) (a0 : Array Value) (hw : ∀ d ∈ tables_1, d.before a0 Z = true) (s1 : Addr) (v : Addr) (k : ClassId) (x0 : Int32) (cP : Int32) (fm : Value) (h0 : Heap) (O0 : Ext Z.heap h0) (E0 : Exa Z h0 s1 "java/lang/String") (Fv : Fld Z h0 s1 "java/lang/String" "value" "[B" (.ref v)) (Fc : Fld Z h0 s1 "java/lang/String" "coder" "B" (.int (0 : Int32))) (Bx : AL Z h0 v k .byte (by8 [x0])) (SC : Sta Z Z.heap "java/lang/String" "COMPACT_STRINGS" "Z" (.int cP)) (SF : Sta Z Z.heap "jdk/internal/util/Preconditions" "SIOOBE_FORMATTER" "Ljava/util/function/BiFunction;" fm) (hP : ¬ cP = (0 : Int32)) (hfm : fm.category = 1) :
    Met1H consts_1 [] l Z mN12 jdk_42_method_92_code 5 (some (.object "java/lang/String")) ({ frames := 2, cells := 2, slots := 4, locals := 29 } : Room) #[(.ref s1), (.int (1 : Int32)), (.int (1 : Int32))] h0 (Q_sub11 Z s1 v k x0 cP fm h0) := by
  refine Met1H.of_body (Ls := #[.val (.ref s1), .val (.int (1 : Int32)), .val (.int (1 : Int32)), .unset, .unset]) pf_22 (fun m => by first | (simp [entryFrame, mkF, argsToLocals, Value.category]; done) | rfl) ?_
  intro p e s m below meth c T0 C X0 e0 hH0 hsf0
  have Hr0 := CHr.refl hH0
  have N0 : Fr Z.heap.size [] := Fr.nil _
  have Si0 : Sin s s h0 := Sin.start s h0
  refine Go.aloadN (pc' := 1) C X0 d22_0 rfl rfl rfl ?_
  refine Go.callV (y := mN10) (z := mN10) (a := s1) (pc' := 4) C X0 (tw hw 39 rfl) (tw hw 40 rfl) (notFace_at C.2.1 (tw hw 42 rfl)) (tw hw 42 rfl) (tw hw 41 rfl) E0 (by decide) (rm_len l Z a0 hw s1 v k [x0] cP ((1 : Int32)) h0 O0 E0 Fv Fc Bx SC hP rfl) (tw hw 43 rfl) (tw hw 11 rfl) e0 (argsL := []) (rest := []) (W := 0) rfl rfl pd_11 rfl (Nat.le_of_eq rfl) rfl (by decide) (by decide) (by decide) (by decide) d22_1 rfl ?_
  intro T101 v101 L101 X101 q101
  obtain ⟨rfl, rfl, e101⟩ := q101
  have N101 := Fr.app N0 (Fr.nil _)
  refine Go.istoreN (Ls' := #[.val (.ref s1), .val (.int (1 : Int32)), .val (.int (1 : Int32)), .val (.int (1 : Int32)), .unset]) (pc' := 5) C X101 d22_4 rfl rfl ?_
  refine Go.iloadN (pc' := 6) C X101 d22_5 rfl rfl ?_
  refine Go.iloadN (pc' := 7) C X101 d22_6 rfl rfl ?_
  refine Go.iloadN (pc' := 8) C X101 d22_7 rfl rfl ?_
  refine Go.callS (y := mN4) (pc' := 11) C X101 (tw hw 106 rfl) (tw hw 107 rfl) (by decide) (rm_cbe l Z a0 hw ((1 : Int32)) ((1 : Int32)) fm h0 O0 SF (by first | assumption | decide | omega) (by first | assumption | decide | omega) hfm) (tw hw 108 rfl) (tw hw 11 rfl) e101 (argsL := [(.int (1 : Int32)), (.int (1 : Int32)), (.int (1 : Int32))]) (rest := []) (W := 0) rfl rfl pd_12 rfl (Nat.le_of_eq rfl) rfl (by decide) (by decide) (by decide) (by decide) d22_8 rfl ?_
  intro T102 v102 L102 X102 q102
  obtain ⟨rfl, rfl, e102⟩ := q102
  have N102 := Fr.app N101 (Fr.nil _)
  refine Go.iloadN (pc' := 12) C X102 d22_11 rfl rfl ?_
  refine Go.ifYes (pc' := 22) C X102 d22_12 ((if0 _ _).trans (feq (x := (1 : Int32)) (y := (0 : Int32)) (by decide)).2) (by decide) (by decide) ?_
  refine Go.iloadN (pc' := 23) C X102 d22_22 rfl rfl ?_
  refine Go.iloadN (pc' := 24) C X102 d22_23 rfl rfl ?_
  refine Go.isub (pc' := 25) C X102 d22_24 rfl ?_
  rw [show ((1 : Int32) - (1 : Int32)) = (0 : Int32) from by decide]
  refine Go.istore (Ls' := #[.val (.ref s1), .val (.int (1 : Int32)), .val (.int (1 : Int32)), .val (.int (1 : Int32)), .val (.int (0 : Int32))]) (pc' := 27) C X102 d22_25 rfl rfl ?_
  refine Go.aloadN (pc' := 28) C X102 d22_27 rfl rfl rfl ?_
  refine Go.callV (y := mN7) (z := mN7) (a := s1) (pc' := 31) C X102 (tw hw 55 rfl) (tw hw 56 rfl) (notFace_at C.2.1 (tw hw 58 rfl)) (tw hw 58 rfl) (tw hw 57 rfl) E0 (by decide) (rm_isL l Z a0 hw s1 cP h0 O0 Fc SC hP) (tw hw 59 rfl) (tw hw 11 rfl) e102 (argsL := []) (rest := []) (W := 0) rfl rfl pd_13 rfl (Nat.le_of_eq rfl) rfl (by decide) (by decide) (by decide) (by decide) d22_28 rfl ?_
  intro T104 v104 L104 X104 q104
  obtain ⟨rfl, rfl, e104⟩ := q104
  have N104 := Fr.app N102 (Fr.nil _)
  refine Go.ifNo (pc' := 34) C X104 d22_31 ((if0 _ _).trans (feq (x := (1 : Int32)) (y := (0 : Int32)) (by decide)).1) rfl ?_
  refine Go.aloadN (pc' := 35) C X104 d22_34 rfl rfl rfl ?_
  refine Go.getF (pc' := 38) (host := "") C X104 (Or.inl (tw hw 28 rfl)) Via.refl e104 Fv d22_35 rfl ?_
  intro T106 X106 e106
  refine Go.iloadN (pc' := 39) C X106 d22_38 rfl rfl ?_
  refine Go.iload (pc' := 41) C X106 d22_39 rfl rfl ?_
  refine Go.callSH (y := mN16) (pc' := 44) C X106 Si0 (EWc hw) Hr0.1 (tw hw 114 rfl) (tw hw 115 rfl) (by decide) all0 (rm_nst11 l Z a0 hw v k x0 h0 O0 Bx) (tw hw 116 rfl) (tw hw 62 rfl) e106 (argsL := [(.ref v), (.int (1 : Int32)), (.int (0 : Int32))]) (rest := []) (W := 0) rfl rfl pd_14 rfl (Nat.le_of_eq rfl) rfl (by decide) (by decide) (by decide) (by decide) d22_41 rfl ?_
  intro T107 v107 L107 sC107 C107 X107 Si107 hR107 q107
  obtain ⟨r_107, u_107, ku_107, rfl, N107q, K107, P107_0, P107_1, P107_2, P107_3⟩ := q107
  have N107 := Fr.app N104 N107q
  have Hr108 := CHr.trans Hr0 hR107
  refine Go.goto (pc' := 57) C107 X107 d22_44 (by decide) (by decide) ?_
  have K109 : Keep h0 T107.heap [] := ((Keep.refl h0 []).trans K107 all0)
  exact Go.retAH C107 X107 Si107 (EWc hw) Hr108 rfl d22_57 rfl rfl rfl ⟨r_107, u_107, ku_107, rfl, N107, K109, P107_0, P107_1, P107_2, P107_3⟩ (by decide) (by decide)
theorem pd_15 : parseMethodDescriptor "(II)Ljava/lang/String;" = some ⟨[.int, .int], some (.object "java/lang/String")⟩ := by decide +kernel
theorem pf_21 : plainFor mN11 = true := plainFor_of_name (by first | (simp [plainName, overriddenIn]; done) | decide +kernel)
theorem d21_0 : decode jdk_42_method_91_code 0 = .ok (.aload_n 0, 1) := by decide +kernel
theorem d21_1 : decode jdk_42_method_91_code 1 = .ok (.iload_n 1, 1) := by decide +kernel
theorem d21_2 : decode jdk_42_method_91_code 2 = .ok (.aload_n 0, 1) := by decide +kernel
theorem d21_3 : decode jdk_42_method_91_code 3 = .ok (.invokevirtual 505, 3) := by decide +kernel
theorem d21_6 : decode jdk_42_method_91_code 6 = .ok (.invokevirtual 681, 3) := by decide +kernel
theorem d21_9 : decode jdk_42_method_91_code 9 = .ok (.areturn, 1) := by decide +kernel
def Q_su111 (Z : State) (s1 : Addr) (v : Addr) (k : ClassId) (x0 : Int32) (cP : Int32) (fm : Value) (h0 : Heap) (rv : Option Value) (h : Heap) (L : List Loc) : Prop := ∃ r : Addr, ∃ u : Addr, ∃ ku : ClassId, rv = some (.ref r) ∧ Fr Z.heap.size L ∧ Keep h0 h [] ∧ Exa Z h r "java/lang/String" ∧ Fld Z h r "java/lang/String" "value" "[B" (.ref u) ∧ Fld Z h r "java/lang/String" "coder" "B" (.int (0 : Int32)) ∧ AL Z h u ku .byte (by8 [])
theorem rm_su111 (l : Launch) (Z : State) (a0 : Array Value) (hw : ∀ d ∈ tables_1, d.before a0 Z = true) (s1 : Addr) (v : Addr) (k : ClassId) (x0 : Int32) (cP : Int32) (fm : Value) (h0 : Heap) (O0 : Ext Z.heap h0) (E0 : Exa Z h0 s1 "java/lang/String") (Fv : Fld Z h0 s1 "java/lang/String" "value" "[B" (.ref v)) (Fc : Fld Z h0 s1 "java/lang/String" "coder" "B" (.int (0 : Int32))) (Bx : AL Z h0 v k .byte (by8 [x0])) (SC : Sta Z Z.heap "java/lang/String" "COMPACT_STRINGS" "Z" (.int cP)) (SF : Sta Z Z.heap "jdk/internal/util/Preconditions" "SIOOBE_FORMATTER" "Ljava/util/function/BiFunction;" fm) (hP : ¬ cP = (0 : Int32)) (hfm : fm.category = 1) :
    Met1H consts_1 [] l Z mN11 jdk_42_method_91_code 2 (some (.object "java/lang/String")) ({ frames := 3, cells := 2, slots := 4, locals := 45 } : Room) #[(.ref s1), (.int (1 : Int32))] h0 (Q_su111 Z s1 v k x0 cP fm h0) := by
  refine Met1H.of_body (Ls := #[.val (.ref s1), .val (.int (1 : Int32))]) pf_21 (fun m => by first | (simp [entryFrame, mkF, argsToLocals, Value.category]; done) | rfl) ?_
  intro p e s m below meth c T0 C X0 e0 hH0 hsf0
  have Hr0 := CHr.refl hH0
  have N0 : Fr Z.heap.size [] := Fr.nil _
  have Si0 : Sin s s h0 := Sin.start s h0
  refine Go.aloadN (pc' := 1) C X0 d21_0 rfl rfl rfl ?_
  refine Go.iloadN (pc' := 2) C X0 d21_1 rfl rfl ?_
  refine Go.aloadN (pc' := 3) C X0 d21_2 rfl rfl rfl ?_
  refine Go.callV (y := mN10) (z := mN10) (a := s1) (pc' := 6) C X0 (tw hw 39 rfl) (tw hw 40 rfl) (notFace_at C.2.1 (tw hw 42 rfl)) (tw hw 42 rfl) (tw hw 41 rfl) E0 (by decide) (rm_len l Z a0 hw s1 v k [x0] cP ((1 : Int32)) h0 O0 E0 Fv Fc Bx SC hP rfl) (tw hw 43 rfl) (tw hw 11 rfl) e0 (argsL := []) (rest := [(.int (1 : Int32)), (.ref s1)]) (W := 2) rfl rfl pd_11 rfl (Nat.le_of_eq rfl) rfl (by decide) (by decide) (by decide) (by decide) d21_3 rfl ?_
  intro T101 v101 L101 X101 q101
  obtain ⟨rfl, rfl, e101⟩ := q101
  have N101 := Fr.app N0 (Fr.nil _)
  refine Go.callVH (y := mN12) (z := mN12) (a := s1) (pc' := 9) C X101 Si0 (EWc hw) Hr0.1 (tw hw 101 rfl) (tw hw 102 rfl) (notFace_at C.2.1 (tw hw 104 rfl)) (tw hw 104 rfl) (tw hw 103 rfl) E0 (by decide) all0 (rm_sub11 l Z a0 hw s1 v k x0 cP fm h0 O0 E0 Fv Fc Bx SC SF hP hfm) (tw hw 105 rfl) (tw hw 11 rfl) e101 (argsL := [(.int (1 : Int32)), (.int (1 : Int32))]) (rest := []) (W := 0) rfl rfl pd_15 rfl (Nat.le_of_eq rfl) rfl (by decide) (by decide) (by decide) (by decide) d21_6 rfl ?_
  intro T102 v102 L102 sC102 C102 X102 Si102 hR102 q102
  obtain ⟨r_102, u_102, ku_102, rfl, N102q, K102, P102_0, P102_1, P102_2, P102_3⟩ := q102
  have N102 := Fr.app N101 N102q
  have Hr103 := CHr.trans Hr0 hR102
  have K104 : Keep h0 T102.heap [] := ((Keep.refl h0 []).trans K102 all0)
  exact Go.retAH C102 X102 Si102 (EWc hw) Hr103 rfl d21_9 rfl rfl rfl ⟨r_102, u_102, ku_102, rfl, N102, K104, P102_0, P102_1, P102_2, P102_3⟩ (by decide) (by decide)
theorem pd_16 : parseMethodDescriptor "(II)V" = some ⟨[.int, .int], none⟩ := by decide +kernel
theorem pd_17 : parseMethodDescriptor "(II)I" = some ⟨[.int, .int], some .int⟩ := by decide +kernel
theorem pf_33 : plainFor mN22 = true := plainFor_of_name (by first | (simp [plainName, overriddenIn]; done) | decide +kernel)
theorem d33_0 : decode jdk_65_method_133_code 0 = .ok (.iload_n 1, 1) := by decide +kernel
theorem d33_1 : decode jdk_65_method_133_code 1 = .ok (.iload_n 2, 1) := by decide +kernel
theorem d33_2 : decode jdk_65_method_133_code 2 = .ok (.invokestatic 343, 3) := by decide +kernel
theorem d33_5 : decode jdk_65_method_133_code 5 = .ok (.iload_n 2, 1) := by decide +kernel
theorem d33_6 : decode jdk_65_method_133_code 6 = .ok (.iload_n 1, 1) := by decide +kernel
theorem d33_7 : decode jdk_65_method_133_code 7 = .ok (.isub, 1) := by decide +kernel
theorem d33_8 : decode jdk_65_method_133_code 8 = .ok (.istore_n 3, 1) := by decide +kernel
theorem d33_9 : decode jdk_65_method_133_code 9 = .ok (.iload_n 3, 1) := by decide +kernel
theorem d33_10 : decode jdk_65_method_133_code 10 = .ok (.newarray .byte, 2) := by decide +kernel
theorem d33_12 : decode jdk_65_method_133_code 12 = .ok (.astore 4, 2) := by decide +kernel
theorem d33_14 : decode jdk_65_method_133_code 14 = .ok (.aload_n 0, 1) := by decide +kernel
theorem d33_15 : decode jdk_65_method_133_code 15 = .ok (.iload_n 1, 1) := by decide +kernel
theorem d33_16 : decode jdk_65_method_133_code 16 = .ok (.aload 4, 2) := by decide +kernel
theorem d33_18 : decode jdk_65_method_133_code 18 = .ok (.iconst 0, 1) := by decide +kernel
theorem d33_19 : decode jdk_65_method_133_code 19 = .ok (.aload_n 0, 1) := by decide +kernel
theorem d33_20 : decode jdk_65_method_133_code 20 = .ok (.arraylength, 1) := by decide +kernel
theorem d33_21 : decode jdk_65_method_133_code 21 = .ok (.iload_n 1, 1) := by decide +kernel
theorem d33_22 : decode jdk_65_method_133_code 22 = .ok (.isub, 1) := by decide +kernel
theorem d33_23 : decode jdk_65_method_133_code 23 = .ok (.iload_n 3, 1) := by decide +kernel
theorem d33_24 : decode jdk_65_method_133_code 24 = .ok (.invokestatic 304, 3) := by decide +kernel
theorem d33_27 : decode jdk_65_method_133_code 27 = .ok (.invokestatic 150, 3) := by decide +kernel
theorem d33_30 : decode jdk_65_method_133_code 30 = .ok (.aload 4, 2) := by decide +kernel
theorem d33_32 : decode jdk_65_method_133_code 32 = .ok (.areturn, 1) := by decide +kernel
def Q_crb12 (Z : State) (v : Addr) (k : ClassId) (x0 : Int32) (x1 : Int32) (h0 : Heap) (rv : Option Value) (h : Heap) (L : List Loc) : Prop := ∃ u : Addr, ∃ ku : ClassId, rv = some (.ref u) ∧ Fr Z.heap.size L ∧ Keep h0 h [] ∧ h0.size ≤ u ∧ AL Z h u ku .byte (by8 [x1])
theorem rm_crb12 (l : Launch) (Z : State) (a0 : Array Value) (hw : ∀ d ∈ tables_1, d.before a0 Z = true) (v : Addr) (k : ClassId) (x0 : Int32) (x1 : Int32) (h0 : Heap) (O0 : Ext Z.heap h0) (Bx : AL Z h0 v k .byte (by8 [x0, x1])) :
    Met1 l Z mN22 jdk_65_method_133_code 5 (some (.array .byte)) ({ frames := 1, cells := 1, slots := 1, locals := 18 } : Room) #[(.ref v), (.int (1 : Int32)), (.int (2 : Int32))] h0 (Q_crb12 Z v k x0 x1 h0) := by
  refine Met1.of_body (Ls := #[.val (.ref v), .val (.int (1 : Int32)), .val (.int (2 : Int32)), .unset, .unset]) pf_33 (fun m => by first | (simp [entryFrame, mkF, argsToLocals, Value.category]; done) | rfl) ?_
  intro p e s m below meth c T0 C X0 e0
  have N0 : Fr Z.heap.size [] := Fr.nil _
  refine Go.iloadN (pc' := 1) C X0 d33_0 rfl rfl ?_
  refine Go.iloadN (pc' := 2) C X0 d33_1 rfl rfl ?_
  refine Go.callS (y := mN20) (pc' := 5) C X0 (tw hw 154 rfl) (tw hw 155 rfl) (by decide) (rm_ckl l Z a0 hw ((1 : Int32)) ((2 : Int32)) h0 O0 (by first | assumption | decide | omega)) (tw hw 156 rfl) (tw hw 149 rfl) e0 (argsL := [(.int (1 : Int32)), (.int (2 : Int32))]) (rest := []) (W := 0) rfl rfl pd_16 rfl (Nat.le_of_eq rfl) rfl (by decide) (by decide) (by decide) (by decide) d33_2 rfl ?_
  intro T101 v101 L101 X101 q101
  obtain ⟨rfl, rfl, e101⟩ := q101
  have N101 := Fr.app N0 (Fr.nil _)
  refine Go.iloadN (pc' := 6) C X101 d33_5 rfl rfl ?_
  refine Go.iloadN (pc' := 7) C X101 d33_6 rfl rfl ?_
  refine Go.isub (pc' := 8) C X101 d33_7 rfl ?_
  rw [show ((2 : Int32) - (1 : Int32)) = (1 : Int32) from by decide]
  refine Go.istoreN (Ls' := #[.val (.ref v), .val (.int (1 : Int32)), .val (.int (2 : Int32)), .val (.int (1 : Int32)), .unset]) (pc' := 9) C X101 d33_8 rfl rfl ?_
  refine Go.iloadN (pc' := 10) C X101 d33_9 rfl rfl ?_
  refine Go.newP (aty := .byte) (cap := 1) (vs := [(.int (0 : Int32))]) (ad := "[B") (pc' := 12) C X101 (by decide) (tw hw 23 rfl) e101 (by decide) (by decide) (by decide) (by decide) (by decide) rfl d33_10 rfl ?_
  intro T102 h102 b102 k102 X102 e102 g102 E102 A102 Ea102
  have n_b102 : Z.heap.size ≤ b102 := Nat.le_trans O0.1 (Nat.le_of_eq g102.symm)
  have z_b102 : h0.size ≤ b102 := Nat.le_trans (Nat.le_refl _) (Nat.le_of_eq g102.symm)
  have A102 : AL Z h102 b102 k102 .byte [(.int (0 : Int32))] := A102
  refine Go.astore (Ls' := #[.val (.ref v), .val (.int (1 : Int32)), .val (.int (2 : Int32)), .val (.int (1 : Int32)), .val (.ref b102)]) (pc' := 14) C X102 d33_12 rfl rfl rfl ?_
  refine Go.aloadN (pc' := 15) C X102 d33_14 rfl rfl rfl ?_
  refine Go.iloadN (pc' := 16) C X102 d33_15 rfl rfl ?_
  refine Go.aload (pc' := 18) C X102 d33_16 rfl rfl rfl ?_
  refine Go.iconst (z := (0 : Int32)) (pc' := 19) C X102 d33_18 rfl rfl ?_
  refine Go.aloadN (pc' := 20) C X102 d33_19 rfl rfl rfl ?_
  have c103 : AL Z h102 v k .byte (by8 [x0, x1]) := (AL.ext E102 Bx)
  refine Go.alen (z := (2 : Int32)) (pc' := 21) C X102 e102 c103 (by rw [by8_len]; rfl) d33_20 rfl ?_
  refine Go.iloadN (pc' := 22) C X102 d33_21 rfl rfl ?_
  refine Go.isub (pc' := 23) C X102 d33_22 rfl ?_
  rw [show ((2 : Int32) - (1 : Int32)) = (1 : Int32) from by decide]
  refine Go.iloadN (pc' := 24) C X102 d33_23 rfl rfl ?_
  have O105 : Ext Z.heap h102 := (Ext.trans O0 E102)
  refine Go.callS (y := mN0) (pc' := 27) C X102 (tw hw 157 rfl) (tw hw 68 rfl) (by decide) (rm_mn l Z a0 hw ((1 : Int32)) h102 O105 ) (tw hw 70 rfl) (tw hw 69 rfl) e102 (argsL := [(.int (1 : Int32)), (.int (1 : Int32))]) (rest := [(.int (0 : Int32)), (.ref b102), (.int (1 : Int32)), (.ref v)]) (W := 4) rfl rfl pd_17 rfl (Nat.le_of_eq rfl) rfl (by decide) (by decide) (by decide) (by decide) d33_24 rfl ?_
  intro T104 v104 L104 X104 q104
  obtain ⟨rfl, rfl, e104⟩ := q104
  have N104 := Fr.app N101 (Fr.nil _)
  refine Go.arrcopy (i := 1) (j := 0) (n := 1) (vd' := (by8 [x1])) (W := 0) (n0 := Z.heap.size) (pc' := 30) C X104 (tw hw 158 rfl) (tw hw 161 rfl) (tw hw 159 rfl) (tw hw 160 rfl) e104 c103 A102 (fit8 _) (fit0 1) (by rw [by8_len]; simp) (by simp) (Or.inl ⟨rfl, rfl⟩) (by decide) (by decide) (by decide) (by decide) (by decide) (by decide) (by rw [by8_len]; simp) (by simp) rfl N104 n_b102 rfl (by decide) (Nat.le_of_eq rfl) (by decide) d33_27 rfl ?_
  intro T106 h106 L106 X106 e106 N106 K106 A106
  refine Go.aload (pc' := 32) C X106 d33_30 rfl rfl rfl ?_
  have K107 : Keep h0 h106 [] := (((Keep.refl h0 []).ext E102).trans K106 (allS (Or.inr z_b102) all0))
  exact Go.retA C X106 rfl d33_32 rfl rfl rfl (by rw [e106]; exact ⟨b102, k102, rfl, N106, K107, z_b102, A106⟩) (by decide) (by decide)
theorem pd_18 : parseMethodDescriptor "([BII)[B" = some ⟨[(.array .byte), .int, .int], some (.array .byte)⟩ := by decide +kernel
theorem pf_32 : plainFor mN21 = true := plainFor_of_name (by first | (simp [plainName, overriddenIn]; done) | decide +kernel)
theorem d32_0 : decode jdk_65_method_132_code 0 = .ok (.iload_n 1, 1) := by decide +kernel
theorem d32_1 : decode jdk_65_method_132_code 1 = .ok (.ifCond .ne 9, 3) := by decide +kernel
theorem d32_10 : decode jdk_65_method_132_code 10 = .ok (.aload_n 0, 1) := by decide +kernel
theorem d32_11 : decode jdk_65_method_132_code 11 = .ok (.iload_n 1, 1) := by decide +kernel
theorem d32_12 : decode jdk_65_method_132_code 12 = .ok (.iload_n 2, 1) := by decide +kernel
theorem d32_13 : decode jdk_65_method_132_code 13 = .ok (.invokestatic 339, 3) := by decide +kernel
theorem d32_16 : decode jdk_65_method_132_code 16 = .ok (.areturn, 1) := by decide +kernel
def Q_cra12 (Z : State) (v : Addr) (k : ClassId) (x0 : Int32) (x1 : Int32) (h0 : Heap) (rv : Option Value) (h : Heap) (L : List Loc) : Prop := ∃ u : Addr, ∃ ku : ClassId, rv = some (.ref u) ∧ Fr Z.heap.size L ∧ Keep h0 h [] ∧ h0.size ≤ u ∧ AL Z h u ku .byte (by8 [x1])
theorem rm_cra12 (l : Launch) (Z : State) (a0 : Array Value) (hw : ∀ d ∈ tables_1, d.before a0 Z = true) (v : Addr) (k : ClassId) (x0 : Int32) (x1 : Int32) (h0 : Heap) (O0 : Ext Z.heap h0) (Bx : AL Z h0 v k .byte (by8 [x0, x1])) :
    Met1 l Z mN21 jdk_65_method_132_code 3 (some (.array .byte)) ({ frames := 2, cells := 1, slots := 1, locals := 34 } : Room) #[(.ref v), (.int (1 : Int32)), (.int (2 : Int32))] h0 (Q_cra12 Z v k x0 x1 h0) := by
  refine Met1.of_body (Ls := #[.val (.ref v), .val (.int (1 : Int32)), .val (.int (2 : Int32))]) pf_32 (fun m => by first | (simp [entryFrame, mkF, argsToLocals, Value.category]; done) | rfl) ?_
  intro p e s m below meth c T0 C X0 e0
  have N0 : Fr Z.heap.size [] := Fr.nil _
  refine Go.iloadN (pc' := 1) C X0 d32_0 rfl rfl ?_
  refine Go.ifYes (pc' := 10) C X0 d32_1 ((if0 _ _).trans (feq (x := (1 : Int32)) (y := (0 : Int32)) (by decide)).2) (by decide) (by decide) ?_
  refine Go.aloadN (pc' := 11) C X0 d32_10 rfl rfl rfl ?_
  refine Go.iloadN (pc' := 12) C X0 d32_11 rfl rfl ?_
  refine Go.iloadN (pc' := 13) C X0 d32_12 rfl rfl ?_
  refine Go.callS (y := mN22) (pc' := 16) C X0 (tw hw 151 rfl) (tw hw 152 rfl) (by decide) (rm_crb12 l Z a0 hw v k x0 x1 h0 O0 Bx) (tw hw 153 rfl) (tw hw 149 rfl) e0 (argsL := [(.ref v), (.int (1 : Int32)), (.int (2 : Int32))]) (rest := []) (W := 0) rfl rfl pd_18 rfl (Nat.le_of_eq rfl) rfl (by decide) (by decide) (by decide) (by decide) d32_13 rfl ?_
  intro T102 v102 L102 X102 q102
  obtain ⟨u_102, ku_102, rfl, N102q, K102, B102_0, P102_0⟩ := q102
  have N102 := Fr.app N0 N102q
  have n_u_102 : Z.heap.size ≤ u_102 := Nat.le_trans O0.1 B102_0
  have z_u_102 : h0.size ≤ u_102 := Nat.le_trans (Nat.le_refl _) B102_0
  have K103 : Keep h0 T102.heap [] := ((Keep.refl h0 []).trans K102 all0)
  exact Go.retA C X102 rfl d32_16 rfl rfl rfl ⟨u_102, ku_102, rfl, N102, K103, z_u_102, P102_0⟩ (by decide) (by decide)
theorem pd_19 : parseMethodDescriptor "([BB)V" = some ⟨[(.array .byte), .byte], none⟩ := by decide +kernel
theorem d25_7 : decode jdk_43_method_47_code 7 = .ok (.new 1, 3) := by decide +kernel
theorem d25_10 : decode jdk_43_method_47_code 10 = .ok (.dup, 1) := by decide +kernel
theorem d25_11 : decode jdk_43_method_47_code 11 = .ok (.aload_n 0, 1) := by decide +kernel
theorem d25_12 : decode jdk_43_method_47_code 12 = .ok (.iload_n 1, 1) := by decide +kernel
theorem d25_13 : decode jdk_43_method_47_code 13 = .ok (.iload_n 1, 1) := by decide +kernel
theorem d25_14 : decode jdk_43_method_47_code 14 = .ok (.iload_n 2, 1) := by decide +kernel
theorem d25_15 : decode jdk_43_method_47_code 15 = .ok (.iadd, 1) := by decide +kernel
theorem d25_16 : decode jdk_43_method_47_code 16 = .ok (.invokestatic 232, 3) := by decide +kernel
theorem d25_19 : decode jdk_43_method_47_code 19 = .ok (.iconst 0, 1) := by decide +kernel
theorem d25_20 : decode jdk_43_method_47_code 20 = .ok (.invokespecial 112, 3) := by decide +kernel
theorem d25_23 : decode jdk_43_method_47_code 23 = .ok (.areturn, 1) := by decide +kernel
def Q_nst12 (Z : State) (v : Addr) (k : ClassId) (x0 : Int32) (x1 : Int32) (h0 : Heap) (rv : Option Value) (h : Heap) (L : List Loc) : Prop := ∃ r : Addr, ∃ u : Addr, ∃ ku : ClassId, rv = some (.ref r) ∧ Fr Z.heap.size L ∧ Keep h0 h [] ∧ h0.size ≤ r ∧ h0.size ≤ u ∧ Exa Z h r "java/lang/String" ∧ Fld Z h r "java/lang/String" "value" "[B" (.ref u) ∧ Fld Z h r "java/lang/String" "coder" "B" (.int (0 : Int32)) ∧ AL Z h u ku .byte (by8 [x1])
theorem rm_nst12 (l : Launch) (Z : State) (a0 : Array Value) (hw : ∀ d ∈ tables_1, d.before a0 Z = true) (v : Addr) (k : ClassId) (x0 : Int32) (x1 : Int32) (h0 : Heap) (O0 : Ext Z.heap h0) (Bx : AL Z h0 v k .byte (by8 [x0, x1])) :
    Met1 l Z mN16 jdk_43_method_47_code 3 (some (.object "java/lang/String")) ({ frames := 3, cells := 2, slots := 5, locals := 50 } : Room) #[(.ref v), (.int (1 : Int32)), (.int (1 : Int32))] h0 (Q_nst12 Z v k x0 x1 h0) := by
  refine Met1.of_body (Ls := #[.val (.ref v), .val (.int (1 : Int32)), .val (.int (1 : Int32))]) pf_25 (fun m => by first | (simp [entryFrame, mkF, argsToLocals, Value.category]; done) | rfl) ?_
  intro p e s m below meth c T0 C X0 e0
  have N0 : Fr Z.heap.size [] := Fr.nil _
  refine Go.iloadN (pc' := 1) C X0 d25_0 rfl rfl ?_
  refine Go.ifYes (pc' := 7) C X0 d25_1 ((if0 _ _).trans (feq (x := (1 : Int32)) (y := (0 : Int32)) (by decide)).2) (by decide) (by decide) ?_
  refine Go.newO (pc' := 10) C X0 (tw hw 146 rfl) (tw hw 10 rfl) (tw hw 11 rfl) e0 (by decide) (by decide) d25_7 rfl ?_
  intro T102 h102 b102 X102 e102 g102 E102 A102 D102
  have n_b102 : Z.heap.size ≤ b102 := Nat.le_trans O0.1 (Nat.le_of_eq g102.symm)
  have z_b102 : h0.size ≤ b102 := Nat.le_trans (Nat.le_refl _) (Nat.le_of_eq g102.symm)
  have F102_value : Fld Z h102 b102 "java/lang/String" "value" "[B" .null := D102 (Or.inr (tw hw 24 rfl)) (ty := (.array .byte)) (by decide)
  have F102_coder : Fld Z h102 b102 "java/lang/String" "coder" "B" (.int (0 : Int32)) := D102 (Or.inr (tw hw 25 rfl)) (ty := .byte) (by decide)
  refine Go.dup (pc' := 11) C X102 d25_10 rfl rfl ?_
  refine Go.aloadN (pc' := 12) C X102 d25_11 rfl rfl rfl ?_
  refine Go.iloadN (pc' := 13) C X102 d25_12 rfl rfl ?_
  refine Go.iloadN (pc' := 14) C X102 d25_13 rfl rfl ?_
  refine Go.iloadN (pc' := 15) C X102 d25_14 rfl rfl ?_
  refine Go.iadd (pc' := 16) C X102 d25_15 rfl ?_
  rw [show ((1 : Int32) + (1 : Int32)) = (2 : Int32) from by decide]
  have c104 : AL Z h102 v k .byte (by8 [x0, x1]) := (AL.ext E102 Bx)
  have O105 : Ext Z.heap h102 := (Ext.trans O0 E102)
  refine Go.callS (y := mN21) (pc' := 19) C X102 (tw hw 147 rfl) (tw hw 148 rfl) (by decide) (rm_cra12 l Z a0 hw v k x0 x1 h102 O105 c104) (tw hw 150 rfl) (tw hw 149 rfl) e102 (argsL := [(.ref v), (.int (1 : Int32)), (.int (2 : Int32))]) (rest := [(.ref b102), (.ref b102)]) (W := 2) rfl rfl pd_18 rfl (Nat.le_of_eq rfl) rfl (by decide) (by decide) (by decide) (by decide) d25_16 rfl ?_
  intro T103 v103 L103 X103 q103
  obtain ⟨u_103, ku_103, rfl, N103q, K103, B103_0, P103_0⟩ := q103
  have N103 := Fr.app N0 N103q
  have n_u_103 : Z.heap.size ≤ u_103 := Nat.le_trans O105.1 B103_0
  have z_u_103 : h0.size ≤ u_103 := Nat.le_trans (Nat.le_trans (Nat.le_refl _) E102.1) B103_0
  refine Go.iconst (z := (0 : Int32)) (pc' := 20) C X103 d25_19 rfl rfl ?_
  have c107 : Exa Z T103.heap b102 "java/lang/String" := (Exa.keep A102 K103)
  have c108 : Fld Z T103.heap b102 "java/lang/String" "value" "[B" .null := (Fld.keep F102_value K103 nin0)
  have c109 : Fld Z T103.heap b102 "java/lang/String" "coder" "B" (.int (0 : Int32)) := (Fld.keep F102_coder K103 nin0)
  have O110 : Ext Z.heap T103.heap := (Ext.keep O105 K103 all0)
  refine Go.callI (y := mN1) (a := b102) (pc' := 23) C X103 rfl (tw hw 162 rfl) (tw hw 163 rfl) (by decide) (rm_sIb l Z a0 hw b102 u_103 T103.heap O110 c107 c108 c109 n_b102) (tw hw 164 rfl) (tw hw 11 rfl) rfl (argsL := [(.ref u_103), (.int (0 : Int32))]) (rest := [(.ref b102)]) (W := 1) rfl rfl pd_19 rfl (Nat.le_of_eq rfl) rfl (by decide) (by decide) (by decide) (by decide) rfl d25_20 rfl ?_
  intro T106 v106 L106 X106 q106
  obtain ⟨rfl, N106q, K106, P106_0, P106_1⟩ := q106
  have N106 := Fr.app N103 N106q
  have K111 : Keep h0 T106.heap [] := ((((Keep.refl h0 []).ext E102).trans K103 all0).trans K106 (allS (Or.inr z_b102) all0))
  have c112 : Exa Z T106.heap b102 "java/lang/String" := (Exa.keep c107 K106)
  have ne113 : u_103 ≠ b102 := (Nat.ne_of_gt (Nat.lt_of_lt_of_le A102.lt (Nat.le_trans (Nat.le_refl _) B103_0)))
  have c114 : AL Z T106.heap u_103 ku_103 .byte (by8 [x1]) := (AL.keep P103_0 K106 (ninS ne113 nin0))
  exact Go.retA C X106 rfl d25_23 rfl rfl rfl ⟨b102, u_103, ku_103, rfl, N106, K111, z_b102, z_u_103, c112, P106_0, P106_1, c114⟩ (by decide) (by decide)
def Q_sub12 (Z : State) (s1 : Addr) (v : Addr) (k : ClassId) (x0 : Int32) (x1 : Int32) (cP : Int32) (fm : Value) (h0 : Heap) (rv : Option Value) (h : Heap) (L : List Loc) : Prop := ∃ r : Addr, ∃ u : Addr, ∃ ku : ClassId, rv = some (.ref r) ∧ Fr Z.heap.size L ∧ Keep h0 h [] ∧ h0.size ≤ r ∧ h0.size ≤ u ∧ Exa Z h r "java/lang/String" ∧ Fld Z h r "java/lang/String" "value" "[B" (.ref u) ∧ Fld Z h r "java/lang/String" "coder" "B" (.int (0 : Int32)) ∧ AL Z h u ku .byte (by8 [x1])
theorem rm_sub12 (l : Launch) (Z : State) (a0 : Array Value) (hw : ∀ d ∈ tables_1, d.before a0 Z = true) (s1 : Addr) (v : Addr) (k : ClassId) (x0 : Int32) (x1 : Int32) (cP : Int32) (fm : Value) (h0 : Heap) (O0 : Ext Z.heap h0) (E0 : Exa Z h0 s1 "java/lang/String") (Fv : Fld Z h0 s1 "java/lang/String" "value" "[B" (.ref v)) (Fc : Fld Z h0 s1 "java/lang/String" "coder" "B" (.int (0 : Int32))) (Bx : AL Z h0 v k .byte (by8 [x0, x1])) (SC : Sta Z Z.heap "java/lang/String" "COMPACT_STRINGS" "Z" (.int cP)) (SF : Sta Z Z.heap "jdk/internal/util/Preconditions" "SIOOBE_FORMATTER" "Ljava/util/function/BiFunction;" fm) (hP : ¬ cP = (0 : Int32)) (hfm : fm.category = 1) :
    Met1 l Z mN12 jdk_42_method_92_code 5 (some (.object "java/lang/String")) ({ frames := 4, cells := 2, slots := 5, locals := 64 } : Room) #[(.ref s1), (.int (1 : Int32)), (.int (2 : Int32))] h0 (Q_sub12 Z s1 v k x0 x1 cP fm h0) := by
  refine Met1.of_body (Ls := #[.val (.ref s1), .val (.int (1 : Int32)), .val (.int (2 : Int32)), .unset, .unset]) pf_22 (fun m => by first | (simp [entryFrame, mkF, argsToLocals, Value.category]; done) | rfl) ?_
  intro p e s m below meth c T0 C X0 e0
  have N0 : Fr Z.heap.size [] := Fr.nil _
  refine Go.aloadN (pc' := 1) C X0 d22_0 rfl rfl rfl ?_
  refine Go.callV (y := mN10) (z := mN10) (a := s1) (pc' := 4) C X0 (tw hw 39 rfl) (tw hw 40 rfl) (notFace_at C.2.1 (tw hw 42 rfl)) (tw hw 42 rfl) (tw hw 41 rfl) E0 (by decide) (rm_len l Z a0 hw s1 v k ([x0, x1]) cP ((2 : Int32)) h0 O0 E0 Fv Fc Bx SC hP rfl) (tw hw 43 rfl) (tw hw 11 rfl) e0 (argsL := []) (rest := []) (W := 0) rfl rfl pd_11 rfl (Nat.le_of_eq rfl) rfl (by decide) (by decide) (by decide) (by decide) d22_1 rfl ?_
  intro T101 v101 L101 X101 q101
  obtain ⟨rfl, rfl, e101⟩ := q101
  have N101 := Fr.app N0 (Fr.nil _)
  refine Go.istoreN (Ls' := #[.val (.ref s1), .val (.int (1 : Int32)), .val (.int (2 : Int32)), .val (.int (2 : Int32)), .unset]) (pc' := 5) C X101 d22_4 rfl rfl ?_
  refine Go.iloadN (pc' := 6) C X101 d22_5 rfl rfl ?_
  refine Go.iloadN (pc' := 7) C X101 d22_6 rfl rfl ?_
  refine Go.iloadN (pc' := 8) C X101 d22_7 rfl rfl ?_
  refine Go.callS (y := mN4) (pc' := 11) C X101 (tw hw 106 rfl) (tw hw 107 rfl) (by decide) (rm_cbe l Z a0 hw ((1 : Int32)) ((2 : Int32)) fm h0 O0 SF (by first | assumption | decide | omega) (by first | assumption | decide | omega) hfm) (tw hw 108 rfl) (tw hw 11 rfl) e101 (argsL := [(.int (1 : Int32)), (.int (2 : Int32)), (.int (2 : Int32))]) (rest := []) (W := 0) rfl rfl pd_12 rfl (Nat.le_of_eq rfl) rfl (by decide) (by decide) (by decide) (by decide) d22_8 rfl ?_
  intro T102 v102 L102 X102 q102
  obtain ⟨rfl, rfl, e102⟩ := q102
  have N102 := Fr.app N101 (Fr.nil _)
  refine Go.iloadN (pc' := 12) C X102 d22_11 rfl rfl ?_
  refine Go.ifYes (pc' := 22) C X102 d22_12 ((if0 _ _).trans (feq (x := (1 : Int32)) (y := (0 : Int32)) (by decide)).2) (by decide) (by decide) ?_
  refine Go.iloadN (pc' := 23) C X102 d22_22 rfl rfl ?_
  refine Go.iloadN (pc' := 24) C X102 d22_23 rfl rfl ?_
  refine Go.isub (pc' := 25) C X102 d22_24 rfl ?_
  rw [show ((2 : Int32) - (1 : Int32)) = (1 : Int32) from by decide]
  refine Go.istore (Ls' := #[.val (.ref s1), .val (.int (1 : Int32)), .val (.int (2 : Int32)), .val (.int (2 : Int32)), .val (.int (1 : Int32))]) (pc' := 27) C X102 d22_25 rfl rfl ?_
  refine Go.aloadN (pc' := 28) C X102 d22_27 rfl rfl rfl ?_
  refine Go.callV (y := mN7) (z := mN7) (a := s1) (pc' := 31) C X102 (tw hw 55 rfl) (tw hw 56 rfl) (notFace_at C.2.1 (tw hw 58 rfl)) (tw hw 58 rfl) (tw hw 57 rfl) E0 (by decide) (rm_isL l Z a0 hw s1 cP h0 O0 Fc SC hP) (tw hw 59 rfl) (tw hw 11 rfl) e102 (argsL := []) (rest := []) (W := 0) rfl rfl pd_13 rfl (Nat.le_of_eq rfl) rfl (by decide) (by decide) (by decide) (by decide) d22_28 rfl ?_
  intro T104 v104 L104 X104 q104
  obtain ⟨rfl, rfl, e104⟩ := q104
  have N104 := Fr.app N102 (Fr.nil _)
  refine Go.ifNo (pc' := 34) C X104 d22_31 ((if0 _ _).trans (feq (x := (1 : Int32)) (y := (0 : Int32)) (by decide)).1) rfl ?_
  refine Go.aloadN (pc' := 35) C X104 d22_34 rfl rfl rfl ?_
  refine Go.getF (pc' := 38) (host := "") C X104 (Or.inl (tw hw 28 rfl)) Via.refl e104 Fv d22_35 rfl ?_
  intro T106 X106 e106
  refine Go.iloadN (pc' := 39) C X106 d22_38 rfl rfl ?_
  refine Go.iload (pc' := 41) C X106 d22_39 rfl rfl ?_
  refine Go.callS (y := mN16) (pc' := 44) C X106 (tw hw 114 rfl) (tw hw 115 rfl) (by decide) (rm_nst12 l Z a0 hw v k x0 x1 h0 O0 Bx) (tw hw 116 rfl) (tw hw 62 rfl) e106 (argsL := [(.ref v), (.int (1 : Int32)), (.int (1 : Int32))]) (rest := []) (W := 0) rfl rfl pd_14 rfl (Nat.le_of_eq rfl) rfl (by decide) (by decide) (by decide) (by decide) d22_41 rfl ?_
  intro T107 v107 L107 X107 q107
  obtain ⟨r_107, u_107, ku_107, rfl, N107q, K107, B107_0, B107_1, P107_0, P107_1, P107_2, P107_3⟩ := q107
  have N107 := Fr.app N104 N107q
  have n_r_107 : Z.heap.size ≤ r_107 := Nat.le_trans O0.1 B107_0
  have z_r_107 : h0.size ≤ r_107 := Nat.le_trans (Nat.le_refl _) B107_0
  have n_u_107 : Z.heap.size ≤ u_107 := Nat.le_trans O0.1 B107_1
  have z_u_107 : h0.size ≤ u_107 := Nat.le_trans (Nat.le_refl _) B107_1
  refine Go.goto (pc' := 57) C X107 d22_44 (by decide) (by decide) ?_
  have K108 : Keep h0 T107.heap [] := ((Keep.refl h0 []).trans K107 all0)
  exact Go.retA C X107 rfl d22_57 rfl rfl rfl ⟨r_107, u_107, ku_107, rfl, N107, K108, z_r_107, z_u_107, P107_0, P107_1, P107_2, P107_3⟩ (by decide) (by decide)
def Q_su112 (Z : State) (s1 : Addr) (v : Addr) (k : ClassId) (x0 : Int32) (x1 : Int32) (cP : Int32) (fm : Value) (h0 : Heap) (rv : Option Value) (h : Heap) (L : List Loc) : Prop := ∃ r : Addr, ∃ u : Addr, ∃ ku : ClassId, rv = some (.ref r) ∧ Fr Z.heap.size L ∧ Keep h0 h [] ∧ h0.size ≤ r ∧ h0.size ≤ u ∧ Exa Z h r "java/lang/String" ∧ Fld Z h r "java/lang/String" "value" "[B" (.ref u) ∧ Fld Z h r "java/lang/String" "coder" "B" (.int (0 : Int32)) ∧ AL Z h u ku .byte (by8 [x1])
theorem rm_su112 (l : Launch) (Z : State) (a0 : Array Value) (hw : ∀ d ∈ tables_1, d.before a0 Z = true) (s1 : Addr) (v : Addr) (k : ClassId) (x0 : Int32) (x1 : Int32) (cP : Int32) (fm : Value) (h0 : Heap) (O0 : Ext Z.heap h0) (E0 : Exa Z h0 s1 "java/lang/String") (Fv : Fld Z h0 s1 "java/lang/String" "value" "[B" (.ref v)) (Fc : Fld Z h0 s1 "java/lang/String" "coder" "B" (.int (0 : Int32))) (Bx : AL Z h0 v k .byte (by8 [x0, x1])) (SC : Sta Z Z.heap "java/lang/String" "COMPACT_STRINGS" "Z" (.int cP)) (SF : Sta Z Z.heap "jdk/internal/util/Preconditions" "SIOOBE_FORMATTER" "Ljava/util/function/BiFunction;" fm) (hP : ¬ cP = (0 : Int32)) (hfm : fm.category = 1) :
    Met1 l Z mN11 jdk_42_method_91_code 2 (some (.object "java/lang/String")) ({ frames := 5, cells := 2, slots := 5, locals := 80 } : Room) #[(.ref s1), (.int (1 : Int32))] h0 (Q_su112 Z s1 v k x0 x1 cP fm h0) := by
  refine Met1.of_body (Ls := #[.val (.ref s1), .val (.int (1 : Int32))]) pf_21 (fun m => by first | (simp [entryFrame, mkF, argsToLocals, Value.category]; done) | rfl) ?_
  intro p e s m below meth c T0 C X0 e0
  have N0 : Fr Z.heap.size [] := Fr.nil _
  refine Go.aloadN (pc' := 1) C X0 d21_0 rfl rfl rfl ?_
  refine Go.iloadN (pc' := 2) C X0 d21_1 rfl rfl ?_
  refine Go.aloadN (pc' := 3) C X0 d21_2 rfl rfl rfl ?_
  refine Go.callV (y := mN10) (z := mN10) (a := s1) (pc' := 6) C X0 (tw hw 39 rfl) (tw hw 40 rfl) (notFace_at C.2.1 (tw hw 42 rfl)) (tw hw 42 rfl) (tw hw 41 rfl) E0 (by decide) (rm_len l Z a0 hw s1 v k ([x0, x1]) cP ((2 : Int32)) h0 O0 E0 Fv Fc Bx SC hP rfl) (tw hw 43 rfl) (tw hw 11 rfl) e0 (argsL := []) (rest := [(.int (1 : Int32)), (.ref s1)]) (W := 2) rfl rfl pd_11 rfl (Nat.le_of_eq rfl) rfl (by decide) (by decide) (by decide) (by decide) d21_3 rfl ?_
  intro T101 v101 L101 X101 q101
  obtain ⟨rfl, rfl, e101⟩ := q101
  have N101 := Fr.app N0 (Fr.nil _)
  refine Go.callV (y := mN12) (z := mN12) (a := s1) (pc' := 9) C X101 (tw hw 101 rfl) (tw hw 102 rfl) (notFace_at C.2.1 (tw hw 104 rfl)) (tw hw 104 rfl) (tw hw 103 rfl) E0 (by decide) (rm_sub12 l Z a0 hw s1 v k x0 x1 cP fm h0 O0 E0 Fv Fc Bx SC SF hP hfm) (tw hw 105 rfl) (tw hw 11 rfl) e101 (argsL := [(.int (1 : Int32)), (.int (2 : Int32))]) (rest := []) (W := 0) rfl rfl pd_15 rfl (Nat.le_of_eq rfl) rfl (by decide) (by decide) (by decide) (by decide) d21_6 rfl ?_
  intro T102 v102 L102 X102 q102
  obtain ⟨r_102, u_102, ku_102, rfl, N102q, K102, B102_0, B102_1, P102_0, P102_1, P102_2, P102_3⟩ := q102
  have N102 := Fr.app N101 N102q
  have n_r_102 : Z.heap.size ≤ r_102 := Nat.le_trans O0.1 B102_0
  have z_r_102 : h0.size ≤ r_102 := Nat.le_trans (Nat.le_refl _) B102_0
  have n_u_102 : Z.heap.size ≤ u_102 := Nat.le_trans O0.1 B102_1
  have z_u_102 : h0.size ≤ u_102 := Nat.le_trans (Nat.le_refl _) B102_1
  have K103 : Keep h0 T102.heap [] := ((Keep.refl h0 []).trans K102 all0)
  exact Go.retA C X102 rfl d21_9 rfl rfl rfl ⟨r_102, u_102, ku_102, rfl, N102, K103, z_r_102, z_u_102, P102_0, P102_1, P102_2, P102_3⟩ (by decide) (by decide)
def Q_nst22 (Z : State) (v : Addr) (k : ClassId) (x0 : Int32) (x1 : Int32) (h0 : Heap) (rv : Option Value) (h : Heap) (L : List Loc) : Prop := ∃ r : Addr, ∃ u : Addr, ∃ ku : ClassId, rv = some (.ref r) ∧ Fr Z.heap.size L ∧ Keep h0 h [] ∧ Exa Z h r "java/lang/String" ∧ Fld Z h r "java/lang/String" "value" "[B" (.ref u) ∧ Fld Z h r "java/lang/String" "coder" "B" (.int (0 : Int32)) ∧ AL Z h u ku .byte (by8 [])
theorem rm_nst22 (l : Launch) (Z : State) (a0 : Array Value) (hw : ∀ d ∈ tables_1, d.before a0 Z = true) (v : Addr) (k : ClassId) (x0 : Int32) (x1 : Int32) (h0 : Heap) (O0 : Ext Z.heap h0) (Bx : AL Z h0 v k .byte (by8 [x0, x1])) :
    Met1H consts_1 [] l Z mN16 jdk_43_method_47_code 3 (some (.object "java/lang/String")) ({ frames := 0, cells := 2, slots := 4, locals := 0 } : Room) #[(.ref v), (.int (2 : Int32)), (.int (0 : Int32))] h0 (Q_nst22 Z v k x0 x1 h0) := by
  refine Met1H.of_body (Ls := #[.val (.ref v), .val (.int (2 : Int32)), .val (.int (0 : Int32))]) pf_25 (fun m => by first | (simp [entryFrame, mkF, argsToLocals, Value.category]; done) | rfl) ?_
  intro p e s m below meth c T0 C X0 e0 hH0 hsf0
  have Hr0 := CHr.refl hH0
  have N0 : Fr Z.heap.size [] := Fr.nil _
  have Si0 : Sin s s h0 := Sin.start s h0
  refine Go.iloadN (pc' := 1) C X0 d25_0 rfl rfl ?_
  refine Go.ifNo (pc' := 4) C X0 d25_1 ((if0 _ _).trans (teq (x := (0 : Int32)) (y := (0 : Int32)) (by decide)).2) rfl ?_
  refine Go.ldcH (pc' := 6) (n := 0) (vs := []) (z := (0 : Int32)) C X0 Si0 (EWc hw) Hr0.1 (tw hw 117 rfl) (wS hw) e0 (by decide) (by decide) (by decide) (by decide) (by decide) (by decide) (by decide) (by decide) d25_4 rfl ?_
  intro T102 h102 b102 sC102 v102 k102 C102 X102 e102 Si102 E102 hR102 A102 F102c F102v B102 hne102
  have Hr103 := CHr.trans Hr0 hR102
  have K104 : Keep h0 h102 [] := ((Keep.refl h0 []).ext E102)
  exact Go.retAH C102 X102 (by rw [e102]; exact Si102) (EWc hw) (by rw [e102]; exact Hr103) rfl d25_6 rfl rfl rfl (by rw [e102]; exact ⟨b102, v102, k102, rfl, N0, K104, A102, F102v, F102c, B102⟩) (by decide) (by decide)
def Q_sub22 (Z : State) (s1 : Addr) (v : Addr) (k : ClassId) (x0 : Int32) (x1 : Int32) (cP : Int32) (fm : Value) (h0 : Heap) (rv : Option Value) (h : Heap) (L : List Loc) : Prop := ∃ r : Addr, ∃ u : Addr, ∃ ku : ClassId, rv = some (.ref r) ∧ Fr Z.heap.size L ∧ Keep h0 h [] ∧ Exa Z h r "java/lang/String" ∧ Fld Z h r "java/lang/String" "value" "[B" (.ref u) ∧ Fld Z h r "java/lang/String" "coder" "B" (.int (0 : Int32)) ∧ AL Z h u ku .byte (by8 [])
theorem rm_sub22 (l : Launch) (Z : State) (a0 : Array Value) (hw : ∀ d ∈ tables_1, d.before a0 Z = true) (s1 : Addr) (v : Addr) (k : ClassId) (x0 : Int32) (x1 : Int32) (cP : Int32) (fm : Value) (h0 : Heap) (O0 : Ext Z.heap h0) (E0 : Exa Z h0 s1 "java/lang/String") (Fv : Fld Z h0 s1 "java/lang/String" "value" "[B" (.ref v)) (Fc : Fld Z h0 s1 "java/lang/String" "coder" "B" (.int (0 : Int32))) (Bx : AL Z h0 v k .byte (by8 [x0, x1])) (SC : Sta Z Z.heap "java/lang/String" "COMPACT_STRINGS" "Z" (.int cP)) (SF : Sta Z Z.heap "jdk/internal/util/Preconditions" "SIOOBE_FORMATTER" "Ljava/util/function/BiFunction;" fm) (hP : ¬ cP = (0 : Int32)) (hfm : fm.category = 1) :
    Met1H consts_1 [] l Z mN12 jdk_42_method_92_code 5 (some (.object "java/lang/String")) ({ frames := 2, cells := 2, slots := 4, locals := 29 } : Room) #[(.ref s1), (.int (2 : Int32)), (.int (2 : Int32))] h0 (Q_sub22 Z s1 v k x0 x1 cP fm h0) := by
  refine Met1H.of_body (Ls := #[.val (.ref s1), .val (.int (2 : Int32)), .val (.int (2 : Int32)), .unset, .unset]) pf_22 (fun m => by first | (simp [entryFrame, mkF, argsToLocals, Value.category]; done) | rfl) ?_
  intro p e s m below meth c T0 C X0 e0 hH0 hsf0
  have Hr0 := CHr.refl hH0
  have N0 : Fr Z.heap.size [] := Fr.nil _
  have Si0 : Sin s s h0 := Sin.start s h0
  refine Go.aloadN (pc' := 1) C X0 d22_0 rfl rfl rfl ?_
  refine Go.callV (y := mN10) (z := mN10) (a := s1) (pc' := 4) C X0 (tw hw 39 rfl) (tw hw 40 rfl) (notFace_at C.2.1 (tw hw 42 rfl)) (tw hw 42 rfl) (tw hw 41 rfl) E0 (by decide) (rm_len l Z a0 hw s1 v k ([x0, x1]) cP ((2 : Int32)) h0 O0 E0 Fv Fc Bx SC hP rfl) (tw hw 43 rfl) (tw hw 11 rfl) e0 (argsL := []) (rest := []) (W := 0) rfl rfl pd_11 rfl (Nat.le_of_eq rfl) rfl (by decide) (by decide) (by decide) (by decide) d22_1 rfl ?_
  intro T101 v101 L101 X101 q101
  obtain ⟨rfl, rfl, e101⟩ := q101
  have N101 := Fr.app N0 (Fr.nil _)
  refine Go.istoreN (Ls' := #[.val (.ref s1), .val (.int (2 : Int32)), .val (.int (2 : Int32)), .val (.int (2 : Int32)), .unset]) (pc' := 5) C X101 d22_4 rfl rfl ?_
  refine Go.iloadN (pc' := 6) C X101 d22_5 rfl rfl ?_
  refine Go.iloadN (pc' := 7) C X101 d22_6 rfl rfl ?_
  refine Go.iloadN (pc' := 8) C X101 d22_7 rfl rfl ?_
  refine Go.callS (y := mN4) (pc' := 11) C X101 (tw hw 106 rfl) (tw hw 107 rfl) (by decide) (rm_cbe l Z a0 hw ((2 : Int32)) ((2 : Int32)) fm h0 O0 SF (by first | assumption | decide | omega) (by first | assumption | decide | omega) hfm) (tw hw 108 rfl) (tw hw 11 rfl) e101 (argsL := [(.int (2 : Int32)), (.int (2 : Int32)), (.int (2 : Int32))]) (rest := []) (W := 0) rfl rfl pd_12 rfl (Nat.le_of_eq rfl) rfl (by decide) (by decide) (by decide) (by decide) d22_8 rfl ?_
  intro T102 v102 L102 X102 q102
  obtain ⟨rfl, rfl, e102⟩ := q102
  have N102 := Fr.app N101 (Fr.nil _)
  refine Go.iloadN (pc' := 12) C X102 d22_11 rfl rfl ?_
  refine Go.ifYes (pc' := 22) C X102 d22_12 ((if0 _ _).trans (feq (x := (2 : Int32)) (y := (0 : Int32)) (by decide)).2) (by decide) (by decide) ?_
  refine Go.iloadN (pc' := 23) C X102 d22_22 rfl rfl ?_
  refine Go.iloadN (pc' := 24) C X102 d22_23 rfl rfl ?_
  refine Go.isub (pc' := 25) C X102 d22_24 rfl ?_
  rw [show ((2 : Int32) - (2 : Int32)) = (0 : Int32) from by decide]
  refine Go.istore (Ls' := #[.val (.ref s1), .val (.int (2 : Int32)), .val (.int (2 : Int32)), .val (.int (2 : Int32)), .val (.int (0 : Int32))]) (pc' := 27) C X102 d22_25 rfl rfl ?_
  refine Go.aloadN (pc' := 28) C X102 d22_27 rfl rfl rfl ?_
  refine Go.callV (y := mN7) (z := mN7) (a := s1) (pc' := 31) C X102 (tw hw 55 rfl) (tw hw 56 rfl) (notFace_at C.2.1 (tw hw 58 rfl)) (tw hw 58 rfl) (tw hw 57 rfl) E0 (by decide) (rm_isL l Z a0 hw s1 cP h0 O0 Fc SC hP) (tw hw 59 rfl) (tw hw 11 rfl) e102 (argsL := []) (rest := []) (W := 0) rfl rfl pd_13 rfl (Nat.le_of_eq rfl) rfl (by decide) (by decide) (by decide) (by decide) d22_28 rfl ?_
  intro T104 v104 L104 X104 q104
  obtain ⟨rfl, rfl, e104⟩ := q104
  have N104 := Fr.app N102 (Fr.nil _)
  refine Go.ifNo (pc' := 34) C X104 d22_31 ((if0 _ _).trans (feq (x := (1 : Int32)) (y := (0 : Int32)) (by decide)).1) rfl ?_
  refine Go.aloadN (pc' := 35) C X104 d22_34 rfl rfl rfl ?_
  refine Go.getF (pc' := 38) (host := "") C X104 (Or.inl (tw hw 28 rfl)) Via.refl e104 Fv d22_35 rfl ?_
  intro T106 X106 e106
  refine Go.iloadN (pc' := 39) C X106 d22_38 rfl rfl ?_
  refine Go.iload (pc' := 41) C X106 d22_39 rfl rfl ?_
  refine Go.callSH (y := mN16) (pc' := 44) C X106 Si0 (EWc hw) Hr0.1 (tw hw 114 rfl) (tw hw 115 rfl) (by decide) all0 (rm_nst22 l Z a0 hw v k x0 x1 h0 O0 Bx) (tw hw 116 rfl) (tw hw 62 rfl) e106 (argsL := [(.ref v), (.int (2 : Int32)), (.int (0 : Int32))]) (rest := []) (W := 0) rfl rfl pd_14 rfl (Nat.le_of_eq rfl) rfl (by decide) (by decide) (by decide) (by decide) d22_41 rfl ?_
  intro T107 v107 L107 sC107 C107 X107 Si107 hR107 q107
  obtain ⟨r_107, u_107, ku_107, rfl, N107q, K107, P107_0, P107_1, P107_2, P107_3⟩ := q107
  have N107 := Fr.app N104 N107q
  have Hr108 := CHr.trans Hr0 hR107
  refine Go.goto (pc' := 57) C107 X107 d22_44 (by decide) (by decide) ?_
  have K109 : Keep h0 T107.heap [] := ((Keep.refl h0 []).trans K107 all0)
  exact Go.retAH C107 X107 Si107 (EWc hw) Hr108 rfl d22_57 rfl rfl rfl ⟨r_107, u_107, ku_107, rfl, N107, K109, P107_0, P107_1, P107_2, P107_3⟩ (by decide) (by decide)
def Q_su122 (Z : State) (s1 : Addr) (v : Addr) (k : ClassId) (x0 : Int32) (x1 : Int32) (cP : Int32) (fm : Value) (h0 : Heap) (rv : Option Value) (h : Heap) (L : List Loc) : Prop := ∃ r : Addr, ∃ u : Addr, ∃ ku : ClassId, rv = some (.ref r) ∧ Fr Z.heap.size L ∧ Keep h0 h [] ∧ Exa Z h r "java/lang/String" ∧ Fld Z h r "java/lang/String" "value" "[B" (.ref u) ∧ Fld Z h r "java/lang/String" "coder" "B" (.int (0 : Int32)) ∧ AL Z h u ku .byte (by8 [])
theorem rm_su122 (l : Launch) (Z : State) (a0 : Array Value) (hw : ∀ d ∈ tables_1, d.before a0 Z = true) (s1 : Addr) (v : Addr) (k : ClassId) (x0 : Int32) (x1 : Int32) (cP : Int32) (fm : Value) (h0 : Heap) (O0 : Ext Z.heap h0) (E0 : Exa Z h0 s1 "java/lang/String") (Fv : Fld Z h0 s1 "java/lang/String" "value" "[B" (.ref v)) (Fc : Fld Z h0 s1 "java/lang/String" "coder" "B" (.int (0 : Int32))) (Bx : AL Z h0 v k .byte (by8 [x0, x1])) (SC : Sta Z Z.heap "java/lang/String" "COMPACT_STRINGS" "Z" (.int cP)) (SF : Sta Z Z.heap "jdk/internal/util/Preconditions" "SIOOBE_FORMATTER" "Ljava/util/function/BiFunction;" fm) (hP : ¬ cP = (0 : Int32)) (hfm : fm.category = 1) :
    Met1H consts_1 [] l Z mN11 jdk_42_method_91_code 2 (some (.object "java/lang/String")) ({ frames := 3, cells := 2, slots := 4, locals := 45 } : Room) #[(.ref s1), (.int (2 : Int32))] h0 (Q_su122 Z s1 v k x0 x1 cP fm h0) := by
  refine Met1H.of_body (Ls := #[.val (.ref s1), .val (.int (2 : Int32))]) pf_21 (fun m => by first | (simp [entryFrame, mkF, argsToLocals, Value.category]; done) | rfl) ?_
  intro p e s m below meth c T0 C X0 e0 hH0 hsf0
  have Hr0 := CHr.refl hH0
  have N0 : Fr Z.heap.size [] := Fr.nil _
  have Si0 : Sin s s h0 := Sin.start s h0
  refine Go.aloadN (pc' := 1) C X0 d21_0 rfl rfl rfl ?_
  refine Go.iloadN (pc' := 2) C X0 d21_1 rfl rfl ?_
  refine Go.aloadN (pc' := 3) C X0 d21_2 rfl rfl rfl ?_
  refine Go.callV (y := mN10) (z := mN10) (a := s1) (pc' := 6) C X0 (tw hw 39 rfl) (tw hw 40 rfl) (notFace_at C.2.1 (tw hw 42 rfl)) (tw hw 42 rfl) (tw hw 41 rfl) E0 (by decide) (rm_len l Z a0 hw s1 v k ([x0, x1]) cP ((2 : Int32)) h0 O0 E0 Fv Fc Bx SC hP rfl) (tw hw 43 rfl) (tw hw 11 rfl) e0 (argsL := []) (rest := [(.int (2 : Int32)), (.ref s1)]) (W := 2) rfl rfl pd_11 rfl (Nat.le_of_eq rfl) rfl (by decide) (by decide) (by decide) (by decide) d21_3 rfl ?_
  intro T101 v101 L101 X101 q101
  obtain ⟨rfl, rfl, e101⟩ := q101
  have N101 := Fr.app N0 (Fr.nil _)
  refine Go.callVH (y := mN12) (z := mN12) (a := s1) (pc' := 9) C X101 Si0 (EWc hw) Hr0.1 (tw hw 101 rfl) (tw hw 102 rfl) (notFace_at C.2.1 (tw hw 104 rfl)) (tw hw 104 rfl) (tw hw 103 rfl) E0 (by decide) all0 (rm_sub22 l Z a0 hw s1 v k x0 x1 cP fm h0 O0 E0 Fv Fc Bx SC SF hP hfm) (tw hw 105 rfl) (tw hw 11 rfl) e101 (argsL := [(.int (2 : Int32)), (.int (2 : Int32))]) (rest := []) (W := 0) rfl rfl pd_15 rfl (Nat.le_of_eq rfl) rfl (by decide) (by decide) (by decide) (by decide) d21_6 rfl ?_
  intro T102 v102 L102 sC102 C102 X102 Si102 hR102 q102
  obtain ⟨r_102, u_102, ku_102, rfl, N102q, K102, P102_0, P102_1, P102_2, P102_3⟩ := q102
  have N102 := Fr.app N101 N102q
  have Hr103 := CHr.trans Hr0 hR102
  have K104 : Keep h0 T102.heap [] := ((Keep.refl h0 []).trans K102 all0)
  exact Go.retAH C102 X102 Si102 (EWc hw) Hr103 rfl d21_9 rfl rfl rfl ⟨r_102, u_102, ku_102, rfl, N102, K104, P102_0, P102_1, P102_2, P102_3⟩ (by decide) (by decide)
def Q_crb13 (Z : State) (v : Addr) (k : ClassId) (x0 : Int32) (x1 : Int32) (x2 : Int32) (h0 : Heap) (rv : Option Value) (h : Heap) (L : List Loc) : Prop := ∃ u : Addr, ∃ ku : ClassId, rv = some (.ref u) ∧ Fr Z.heap.size L ∧ Keep h0 h [] ∧ h0.size ≤ u ∧ AL Z h u ku .byte (by8 [x1, x2])
theorem rm_crb13 (l : Launch) (Z : State) (a0 : Array Value) (hw : ∀ d ∈ tables_1, d.before a0 Z = true) (v : Addr) (k : ClassId) (x0 : Int32) (x1 : Int32) (x2 : Int32) (h0 : Heap) (O0 : Ext Z.heap h0) (Bx : AL Z h0 v k .byte (by8 [x0, x1, x2])) :
    Met1 l Z mN22 jdk_65_method_133_code 5 (some (.array .byte)) ({ frames := 1, cells := 1, slots := 2, locals := 18 } : Room) #[(.ref v), (.int (1 : Int32)), (.int (3 : Int32))] h0 (Q_crb13 Z v k x0 x1 x2 h0) := by
  refine Met1.of_body (Ls := #[.val (.ref v), .val (.int (1 : Int32)), .val (.int (3 : Int32)), .unset, .unset]) pf_33 (fun m => by first | (simp [entryFrame, mkF, argsToLocals, Value.category]; done) | rfl) ?_
  intro p e s m below meth c T0 C X0 e0
  have N0 : Fr Z.heap.size [] := Fr.nil _
  refine Go.iloadN (pc' := 1) C X0 d33_0 rfl rfl ?_
  refine Go.iloadN (pc' := 2) C X0 d33_1 rfl rfl ?_
  refine Go.callS (y := mN20) (pc' := 5) C X0 (tw hw 154 rfl) (tw hw 155 rfl) (by decide) (rm_ckl l Z a0 hw ((1 : Int32)) ((3 : Int32)) h0 O0 (by first | assumption | decide | omega)) (tw hw 156 rfl) (tw hw 149 rfl) e0 (argsL := [(.int (1 : Int32)), (.int (3 : Int32))]) (rest := []) (W := 0) rfl rfl pd_16 rfl (Nat.le_of_eq rfl) rfl (by decide) (by decide) (by decide) (by decide) d33_2 rfl ?_
  intro T101 v101 L101 X101 q101
  obtain ⟨rfl, rfl, e101⟩ := q101
  have N101 := Fr.app N0 (Fr.nil _)
  refine Go.iloadN (pc' := 6) C X101 d33_5 rfl rfl ?_
  refine Go.iloadN (pc' := 7) C X101 d33_6 rfl rfl ?_
  refine Go.isub (pc' := 8) C X101 d33_7 rfl ?_
  rw [show ((3 : Int32) - (1 : Int32)) = (2 : Int32) from by decide]
  refine Go.istoreN (Ls' := #[.val (.ref v), .val (.int (1 : Int32)), .val (.int (3 : Int32)), .val (.int (2 : Int32)), .unset]) (pc' := 9) C X101 d33_8 rfl rfl ?_
  refine Go.iloadN (pc' := 10) C X101 d33_9 rfl rfl ?_
  refine Go.newP (aty := .byte) (cap := 2) (vs := [(.int (0 : Int32)), (.int (0 : Int32))]) (ad := "[B") (pc' := 12) C X101 (by decide) (tw hw 23 rfl) e101 (by decide) (by decide) (by decide) (by decide) (by decide) rfl d33_10 rfl ?_
  intro T102 h102 b102 k102 X102 e102 g102 E102 A102 Ea102
  have n_b102 : Z.heap.size ≤ b102 := Nat.le_trans O0.1 (Nat.le_of_eq g102.symm)
  have z_b102 : h0.size ≤ b102 := Nat.le_trans (Nat.le_refl _) (Nat.le_of_eq g102.symm)
  have A102 : AL Z h102 b102 k102 .byte [(.int (0 : Int32)), (.int (0 : Int32))] := A102
  refine Go.astore (Ls' := #[.val (.ref v), .val (.int (1 : Int32)), .val (.int (3 : Int32)), .val (.int (2 : Int32)), .val (.ref b102)]) (pc' := 14) C X102 d33_12 rfl rfl rfl ?_
  refine Go.aloadN (pc' := 15) C X102 d33_14 rfl rfl rfl ?_
  refine Go.iloadN (pc' := 16) C X102 d33_15 rfl rfl ?_
  refine Go.aload (pc' := 18) C X102 d33_16 rfl rfl rfl ?_
  refine Go.iconst (z := (0 : Int32)) (pc' := 19) C X102 d33_18 rfl rfl ?_
  refine Go.aloadN (pc' := 20) C X102 d33_19 rfl rfl rfl ?_
  have c103 : AL Z h102 v k .byte (by8 [x0, x1, x2]) := (AL.ext E102 Bx)
  refine Go.alen (z := (3 : Int32)) (pc' := 21) C X102 e102 c103 (by rw [by8_len]; rfl) d33_20 rfl ?_
  refine Go.iloadN (pc' := 22) C X102 d33_21 rfl rfl ?_
  refine Go.isub (pc' := 23) C X102 d33_22 rfl ?_
  rw [show ((3 : Int32) - (1 : Int32)) = (2 : Int32) from by decide]
  refine Go.iloadN (pc' := 24) C X102 d33_23 rfl rfl ?_
  have O105 : Ext Z.heap h102 := (Ext.trans O0 E102)
  refine Go.callS (y := mN0) (pc' := 27) C X102 (tw hw 157 rfl) (tw hw 68 rfl) (by decide) (rm_mn l Z a0 hw ((2 : Int32)) h102 O105 ) (tw hw 70 rfl) (tw hw 69 rfl) e102 (argsL := [(.int (2 : Int32)), (.int (2 : Int32))]) (rest := [(.int (0 : Int32)), (.ref b102), (.int (1 : Int32)), (.ref v)]) (W := 4) rfl rfl pd_17 rfl (Nat.le_of_eq rfl) rfl (by decide) (by decide) (by decide) (by decide) d33_24 rfl ?_
  intro T104 v104 L104 X104 q104
  obtain ⟨rfl, rfl, e104⟩ := q104
  have N104 := Fr.app N101 (Fr.nil _)
  refine Go.arrcopy (i := 1) (j := 0) (n := 2) (vd' := (by8 [x1, x2])) (W := 0) (n0 := Z.heap.size) (pc' := 30) C X104 (tw hw 158 rfl) (tw hw 161 rfl) (tw hw 159 rfl) (tw hw 160 rfl) e104 c103 A102 (fit8 _) (fit0 2) (by rw [by8_len]; simp) (by simp) (Or.inl ⟨rfl, rfl⟩) (by decide) (by decide) (by decide) (by decide) (by decide) (by decide) (by rw [by8_len]; simp) (by simp) rfl N104 n_b102 rfl (by decide) (Nat.le_of_eq rfl) (by decide) d33_27 rfl ?_
  intro T106 h106 L106 X106 e106 N106 K106 A106
  refine Go.aload (pc' := 32) C X106 d33_30 rfl rfl rfl ?_
  have K107 : Keep h0 h106 [] := (((Keep.refl h0 []).ext E102).trans K106 (allS (Or.inr z_b102) all0))
  exact Go.retA C X106 rfl d33_32 rfl rfl rfl (by rw [e106]; exact ⟨b102, k102, rfl, N106, K107, z_b102, A106⟩) (by decide) (by decide)
def Q_cra13 (Z : State) (v : Addr) (k : ClassId) (x0 : Int32) (x1 : Int32) (x2 : Int32) (h0 : Heap) (rv : Option Value) (h : Heap) (L : List Loc) : Prop := ∃ u : Addr, ∃ ku : ClassId, rv = some (.ref u) ∧ Fr Z.heap.size L ∧ Keep h0 h [] ∧ h0.size ≤ u ∧ AL Z h u ku .byte (by8 [x1, x2])
theorem rm_cra13 (l : Launch) (Z : State) (a0 : Array Value) (hw : ∀ d ∈ tables_1, d.before a0 Z = true) (v : Addr) (k : ClassId) (x0 : Int32) (x1 : Int32) (x2 : Int32) (h0 : Heap) (O0 : Ext Z.heap h0) (Bx : AL Z h0 v k .byte (by8 [x0, x1, x2])) :
    Met1 l Z mN21 jdk_65_method_132_code 3 (some (.array .byte)) ({ frames := 2, cells := 1, slots := 2, locals := 34 } : Room) #[(.ref v), (.int (1 : Int32)), (.int (3 : Int32))] h0 (Q_cra13 Z v k x0 x1 x2 h0) := by
  refine Met1.of_body (Ls := #[.val (.ref v), .val (.int (1 : Int32)), .val (.int (3 : Int32))]) pf_32 (fun m => by first | (simp [entryFrame, mkF, argsToLocals, Value.category]; done) | rfl) ?_
  intro p e s m below meth c T0 C X0 e0
  have N0 : Fr Z.heap.size [] := Fr.nil _
  refine Go.iloadN (pc' := 1) C X0 d32_0 rfl rfl ?_
  refine Go.ifYes (pc' := 10) C X0 d32_1 ((if0 _ _).trans (feq (x := (1 : Int32)) (y := (0 : Int32)) (by decide)).2) (by decide) (by decide) ?_
  refine Go.aloadN (pc' := 11) C X0 d32_10 rfl rfl rfl ?_
  refine Go.iloadN (pc' := 12) C X0 d32_11 rfl rfl ?_
  refine Go.iloadN (pc' := 13) C X0 d32_12 rfl rfl ?_
  refine Go.callS (y := mN22) (pc' := 16) C X0 (tw hw 151 rfl) (tw hw 152 rfl) (by decide) (rm_crb13 l Z a0 hw v k x0 x1 x2 h0 O0 Bx) (tw hw 153 rfl) (tw hw 149 rfl) e0 (argsL := [(.ref v), (.int (1 : Int32)), (.int (3 : Int32))]) (rest := []) (W := 0) rfl rfl pd_18 rfl (Nat.le_of_eq rfl) rfl (by decide) (by decide) (by decide) (by decide) d32_13 rfl ?_
  intro T102 v102 L102 X102 q102
  obtain ⟨u_102, ku_102, rfl, N102q, K102, B102_0, P102_0⟩ := q102
  have N102 := Fr.app N0 N102q
  have n_u_102 : Z.heap.size ≤ u_102 := Nat.le_trans O0.1 B102_0
  have z_u_102 : h0.size ≤ u_102 := Nat.le_trans (Nat.le_refl _) B102_0
  have K103 : Keep h0 T102.heap [] := ((Keep.refl h0 []).trans K102 all0)
  exact Go.retA C X102 rfl d32_16 rfl rfl rfl ⟨u_102, ku_102, rfl, N102, K103, z_u_102, P102_0⟩ (by decide) (by decide)
def Q_nst13 (Z : State) (v : Addr) (k : ClassId) (x0 : Int32) (x1 : Int32) (x2 : Int32) (h0 : Heap) (rv : Option Value) (h : Heap) (L : List Loc) : Prop := ∃ r : Addr, ∃ u : Addr, ∃ ku : ClassId, rv = some (.ref r) ∧ Fr Z.heap.size L ∧ Keep h0 h [] ∧ h0.size ≤ r ∧ h0.size ≤ u ∧ Exa Z h r "java/lang/String" ∧ Fld Z h r "java/lang/String" "value" "[B" (.ref u) ∧ Fld Z h r "java/lang/String" "coder" "B" (.int (0 : Int32)) ∧ AL Z h u ku .byte (by8 [x1, x2])
theorem rm_nst13 (l : Launch) (Z : State) (a0 : Array Value) (hw : ∀ d ∈ tables_1, d.before a0 Z = true) (v : Addr) (k : ClassId) (x0 : Int32) (x1 : Int32) (x2 : Int32) (h0 : Heap) (O0 : Ext Z.heap h0) (Bx : AL Z h0 v k .byte (by8 [x0, x1, x2])) :
    Met1 l Z mN16 jdk_43_method_47_code 3 (some (.object "java/lang/String")) ({ frames := 3, cells := 2, slots := 6, locals := 50 } : Room) #[(.ref v), (.int (1 : Int32)), (.int (2 : Int32))] h0 (Q_nst13 Z v k x0 x1 x2 h0) := by
  refine Met1.of_body (Ls := #[.val (.ref v), .val (.int (1 : Int32)), .val (.int (2 : Int32))]) pf_25 (fun m => by first | (simp [entryFrame, mkF, argsToLocals, Value.category]; done) | rfl) ?_
  intro p e s m below meth c T0 C X0 e0
  have N0 : Fr Z.heap.size [] := Fr.nil _
  refine Go.iloadN (pc' := 1) C X0 d25_0 rfl rfl ?_
  refine Go.ifYes (pc' := 7) C X0 d25_1 ((if0 _ _).trans (feq (x := (2 : Int32)) (y := (0 : Int32)) (by decide)).2) (by decide) (by decide) ?_
  refine Go.newO (pc' := 10) C X0 (tw hw 146 rfl) (tw hw 10 rfl) (tw hw 11 rfl) e0 (by decide) (by decide) d25_7 rfl ?_
  intro T102 h102 b102 X102 e102 g102 E102 A102 D102
  have n_b102 : Z.heap.size ≤ b102 := Nat.le_trans O0.1 (Nat.le_of_eq g102.symm)
  have z_b102 : h0.size ≤ b102 := Nat.le_trans (Nat.le_refl _) (Nat.le_of_eq g102.symm)
  have F102_value : Fld Z h102 b102 "java/lang/String" "value" "[B" .null := D102 (Or.inr (tw hw 24 rfl)) (ty := (.array .byte)) (by decide)
  have F102_coder : Fld Z h102 b102 "java/lang/String" "coder" "B" (.int (0 : Int32)) := D102 (Or.inr (tw hw 25 rfl)) (ty := .byte) (by decide)
  refine Go.dup (pc' := 11) C X102 d25_10 rfl rfl ?_
  refine Go.aloadN (pc' := 12) C X102 d25_11 rfl rfl rfl ?_
  refine Go.iloadN (pc' := 13) C X102 d25_12 rfl rfl ?_
  refine Go.iloadN (pc' := 14) C X102 d25_13 rfl rfl ?_
  refine Go.iloadN (pc' := 15) C X102 d25_14 rfl rfl ?_
  refine Go.iadd (pc' := 16) C X102 d25_15 rfl ?_
  rw [show ((1 : Int32) + (2 : Int32)) = (3 : Int32) from by decide]
  have c104 : AL Z h102 v k .byte (by8 [x0, x1, x2]) := (AL.ext E102 Bx)
  have O105 : Ext Z.heap h102 := (Ext.trans O0 E102)
  refine Go.callS (y := mN21) (pc' := 19) C X102 (tw hw 147 rfl) (tw hw 148 rfl) (by decide) (rm_cra13 l Z a0 hw v k x0 x1 x2 h102 O105 c104) (tw hw 150 rfl) (tw hw 149 rfl) e102 (argsL := [(.ref v), (.int (1 : Int32)), (.int (3 : Int32))]) (rest := [(.ref b102), (.ref b102)]) (W := 2) rfl rfl pd_18 rfl (Nat.le_of_eq rfl) rfl (by decide) (by decide) (by decide) (by decide) d25_16 rfl ?_
  intro T103 v103 L103 X103 q103
  obtain ⟨u_103, ku_103, rfl, N103q, K103, B103_0, P103_0⟩ := q103
  have N103 := Fr.app N0 N103q
  have n_u_103 : Z.heap.size ≤ u_103 := Nat.le_trans O105.1 B103_0
  have z_u_103 : h0.size ≤ u_103 := Nat.le_trans (Nat.le_trans (Nat.le_refl _) E102.1) B103_0
  refine Go.iconst (z := (0 : Int32)) (pc' := 20) C X103 d25_19 rfl rfl ?_
  have c107 : Exa Z T103.heap b102 "java/lang/String" := (Exa.keep A102 K103)
  have c108 : Fld Z T103.heap b102 "java/lang/String" "value" "[B" .null := (Fld.keep F102_value K103 nin0)
  have c109 : Fld Z T103.heap b102 "java/lang/String" "coder" "B" (.int (0 : Int32)) := (Fld.keep F102_coder K103 nin0)
  have O110 : Ext Z.heap T103.heap := (Ext.keep O105 K103 all0)
  refine Go.callI (y := mN1) (a := b102) (pc' := 23) C X103 rfl (tw hw 162 rfl) (tw hw 163 rfl) (by decide) (rm_sIb l Z a0 hw b102 u_103 T103.heap O110 c107 c108 c109 n_b102) (tw hw 164 rfl) (tw hw 11 rfl) rfl (argsL := [(.ref u_103), (.int (0 : Int32))]) (rest := [(.ref b102)]) (W := 1) rfl rfl pd_19 rfl (Nat.le_of_eq rfl) rfl (by decide) (by decide) (by decide) (by decide) rfl d25_20 rfl ?_
  intro T106 v106 L106 X106 q106
  obtain ⟨rfl, N106q, K106, P106_0, P106_1⟩ := q106
  have N106 := Fr.app N103 N106q
  have K111 : Keep h0 T106.heap [] := ((((Keep.refl h0 []).ext E102).trans K103 all0).trans K106 (allS (Or.inr z_b102) all0))
  have c112 : Exa Z T106.heap b102 "java/lang/String" := (Exa.keep c107 K106)
  have ne113 : u_103 ≠ b102 := (Nat.ne_of_gt (Nat.lt_of_lt_of_le A102.lt (Nat.le_trans (Nat.le_refl _) B103_0)))
  have c114 : AL Z T106.heap u_103 ku_103 .byte (by8 [x1, x2]) := (AL.keep P103_0 K106 (ninS ne113 nin0))
  exact Go.retA C X106 rfl d25_23 rfl rfl rfl ⟨b102, u_103, ku_103, rfl, N106, K111, z_b102, z_u_103, c112, P106_0, P106_1, c114⟩ (by decide) (by decide)
def Q_sub13 (Z : State) (s1 : Addr) (v : Addr) (k : ClassId) (x0 : Int32) (x1 : Int32) (x2 : Int32) (cP : Int32) (fm : Value) (h0 : Heap) (rv : Option Value) (h : Heap) (L : List Loc) : Prop := ∃ r : Addr, ∃ u : Addr, ∃ ku : ClassId, rv = some (.ref r) ∧ Fr Z.heap.size L ∧ Keep h0 h [] ∧ h0.size ≤ r ∧ h0.size ≤ u ∧ Exa Z h r "java/lang/String" ∧ Fld Z h r "java/lang/String" "value" "[B" (.ref u) ∧ Fld Z h r "java/lang/String" "coder" "B" (.int (0 : Int32)) ∧ AL Z h u ku .byte (by8 [x1, x2])
theorem rm_sub13 (l : Launch) (Z : State) (a0 : Array Value) (hw : ∀ d ∈ tables_1, d.before a0 Z = true) (s1 : Addr) (v : Addr) (k : ClassId) (x0 : Int32) (x1 : Int32) (x2 : Int32) (cP : Int32) (fm : Value) (h0 : Heap) (O0 : Ext Z.heap h0) (E0 : Exa Z h0 s1 "java/lang/String") (Fv : Fld Z h0 s1 "java/lang/String" "value" "[B" (.ref v)) (Fc : Fld Z h0 s1 "java/lang/String" "coder" "B" (.int (0 : Int32))) (Bx : AL Z h0 v k .byte (by8 [x0, x1, x2])) (SC : Sta Z Z.heap "java/lang/String" "COMPACT_STRINGS" "Z" (.int cP)) (SF : Sta Z Z.heap "jdk/internal/util/Preconditions" "SIOOBE_FORMATTER" "Ljava/util/function/BiFunction;" fm) (hP : ¬ cP = (0 : Int32)) (hfm : fm.category = 1) :
    Met1 l Z mN12 jdk_42_method_92_code 5 (some (.object "java/lang/String")) ({ frames := 4, cells := 2, slots := 6, locals := 64 } : Room) #[(.ref s1), (.int (1 : Int32)), (.int (3 : Int32))] h0 (Q_sub13 Z s1 v k x0 x1 x2 cP fm h0) := by
  refine Met1.of_body (Ls := #[.val (.ref s1), .val (.int (1 : Int32)), .val (.int (3 : Int32)), .unset, .unset]) pf_22 (fun m => by first | (simp [entryFrame, mkF, argsToLocals, Value.category]; done) | rfl) ?_
  intro p e s m below meth c T0 C X0 e0
  have N0 : Fr Z.heap.size [] := Fr.nil _
  refine Go.aloadN (pc' := 1) C X0 d22_0 rfl rfl rfl ?_
  refine Go.callV (y := mN10) (z := mN10) (a := s1) (pc' := 4) C X0 (tw hw 39 rfl) (tw hw 40 rfl) (notFace_at C.2.1 (tw hw 42 rfl)) (tw hw 42 rfl) (tw hw 41 rfl) E0 (by decide) (rm_len l Z a0 hw s1 v k ([x0, x1, x2]) cP ((3 : Int32)) h0 O0 E0 Fv Fc Bx SC hP rfl) (tw hw 43 rfl) (tw hw 11 rfl) e0 (argsL := []) (rest := []) (W := 0) rfl rfl pd_11 rfl (Nat.le_of_eq rfl) rfl (by decide) (by decide) (by decide) (by decide) d22_1 rfl ?_
  intro T101 v101 L101 X101 q101
  obtain ⟨rfl, rfl, e101⟩ := q101
  have N101 := Fr.app N0 (Fr.nil _)
  refine Go.istoreN (Ls' := #[.val (.ref s1), .val (.int (1 : Int32)), .val (.int (3 : Int32)), .val (.int (3 : Int32)), .unset]) (pc' := 5) C X101 d22_4 rfl rfl ?_
  refine Go.iloadN (pc' := 6) C X101 d22_5 rfl rfl ?_
  refine Go.iloadN (pc' := 7) C X101 d22_6 rfl rfl ?_
  refine Go.iloadN (pc' := 8) C X101 d22_7 rfl rfl ?_
  refine Go.callS (y := mN4) (pc' := 11) C X101 (tw hw 106 rfl) (tw hw 107 rfl) (by decide) (rm_cbe l Z a0 hw ((1 : Int32)) ((3 : Int32)) fm h0 O0 SF (by first | assumption | decide | omega) (by first | assumption | decide | omega) hfm) (tw hw 108 rfl) (tw hw 11 rfl) e101 (argsL := [(.int (1 : Int32)), (.int (3 : Int32)), (.int (3 : Int32))]) (rest := []) (W := 0) rfl rfl pd_12 rfl (Nat.le_of_eq rfl) rfl (by decide) (by decide) (by decide) (by decide) d22_8 rfl ?_
  intro T102 v102 L102 X102 q102
  obtain ⟨rfl, rfl, e102⟩ := q102
  have N102 := Fr.app N101 (Fr.nil _)
  refine Go.iloadN (pc' := 12) C X102 d22_11 rfl rfl ?_
  refine Go.ifYes (pc' := 22) C X102 d22_12 ((if0 _ _).trans (feq (x := (1 : Int32)) (y := (0 : Int32)) (by decide)).2) (by decide) (by decide) ?_
  refine Go.iloadN (pc' := 23) C X102 d22_22 rfl rfl ?_
  refine Go.iloadN (pc' := 24) C X102 d22_23 rfl rfl ?_
  refine Go.isub (pc' := 25) C X102 d22_24 rfl ?_
  rw [show ((3 : Int32) - (1 : Int32)) = (2 : Int32) from by decide]
  refine Go.istore (Ls' := #[.val (.ref s1), .val (.int (1 : Int32)), .val (.int (3 : Int32)), .val (.int (3 : Int32)), .val (.int (2 : Int32))]) (pc' := 27) C X102 d22_25 rfl rfl ?_
  refine Go.aloadN (pc' := 28) C X102 d22_27 rfl rfl rfl ?_
  refine Go.callV (y := mN7) (z := mN7) (a := s1) (pc' := 31) C X102 (tw hw 55 rfl) (tw hw 56 rfl) (notFace_at C.2.1 (tw hw 58 rfl)) (tw hw 58 rfl) (tw hw 57 rfl) E0 (by decide) (rm_isL l Z a0 hw s1 cP h0 O0 Fc SC hP) (tw hw 59 rfl) (tw hw 11 rfl) e102 (argsL := []) (rest := []) (W := 0) rfl rfl pd_13 rfl (Nat.le_of_eq rfl) rfl (by decide) (by decide) (by decide) (by decide) d22_28 rfl ?_
  intro T104 v104 L104 X104 q104
  obtain ⟨rfl, rfl, e104⟩ := q104
  have N104 := Fr.app N102 (Fr.nil _)
  refine Go.ifNo (pc' := 34) C X104 d22_31 ((if0 _ _).trans (feq (x := (1 : Int32)) (y := (0 : Int32)) (by decide)).1) rfl ?_
  refine Go.aloadN (pc' := 35) C X104 d22_34 rfl rfl rfl ?_
  refine Go.getF (pc' := 38) (host := "") C X104 (Or.inl (tw hw 28 rfl)) Via.refl e104 Fv d22_35 rfl ?_
  intro T106 X106 e106
  refine Go.iloadN (pc' := 39) C X106 d22_38 rfl rfl ?_
  refine Go.iload (pc' := 41) C X106 d22_39 rfl rfl ?_
  refine Go.callS (y := mN16) (pc' := 44) C X106 (tw hw 114 rfl) (tw hw 115 rfl) (by decide) (rm_nst13 l Z a0 hw v k x0 x1 x2 h0 O0 Bx) (tw hw 116 rfl) (tw hw 62 rfl) e106 (argsL := [(.ref v), (.int (1 : Int32)), (.int (2 : Int32))]) (rest := []) (W := 0) rfl rfl pd_14 rfl (Nat.le_of_eq rfl) rfl (by decide) (by decide) (by decide) (by decide) d22_41 rfl ?_
  intro T107 v107 L107 X107 q107
  obtain ⟨r_107, u_107, ku_107, rfl, N107q, K107, B107_0, B107_1, P107_0, P107_1, P107_2, P107_3⟩ := q107
  have N107 := Fr.app N104 N107q
  have n_r_107 : Z.heap.size ≤ r_107 := Nat.le_trans O0.1 B107_0
  have z_r_107 : h0.size ≤ r_107 := Nat.le_trans (Nat.le_refl _) B107_0
  have n_u_107 : Z.heap.size ≤ u_107 := Nat.le_trans O0.1 B107_1
  have z_u_107 : h0.size ≤ u_107 := Nat.le_trans (Nat.le_refl _) B107_1
  refine Go.goto (pc' := 57) C X107 d22_44 (by decide) (by decide) ?_
  have K108 : Keep h0 T107.heap [] := ((Keep.refl h0 []).trans K107 all0)
  exact Go.retA C X107 rfl d22_57 rfl rfl rfl ⟨r_107, u_107, ku_107, rfl, N107, K108, z_r_107, z_u_107, P107_0, P107_1, P107_2, P107_3⟩ (by decide) (by decide)
def Q_su113 (Z : State) (s1 : Addr) (v : Addr) (k : ClassId) (x0 : Int32) (x1 : Int32) (x2 : Int32) (cP : Int32) (fm : Value) (h0 : Heap) (rv : Option Value) (h : Heap) (L : List Loc) : Prop := ∃ r : Addr, ∃ u : Addr, ∃ ku : ClassId, rv = some (.ref r) ∧ Fr Z.heap.size L ∧ Keep h0 h [] ∧ h0.size ≤ r ∧ h0.size ≤ u ∧ Exa Z h r "java/lang/String" ∧ Fld Z h r "java/lang/String" "value" "[B" (.ref u) ∧ Fld Z h r "java/lang/String" "coder" "B" (.int (0 : Int32)) ∧ AL Z h u ku .byte (by8 [x1, x2])
theorem rm_su113 (l : Launch) (Z : State) (a0 : Array Value) (hw : ∀ d ∈ tables_1, d.before a0 Z = true) (s1 : Addr) (v : Addr) (k : ClassId) (x0 : Int32) (x1 : Int32) (x2 : Int32) (cP : Int32) (fm : Value) (h0 : Heap) (O0 : Ext Z.heap h0) (E0 : Exa Z h0 s1 "java/lang/String") (Fv : Fld Z h0 s1 "java/lang/String" "value" "[B" (.ref v)) (Fc : Fld Z h0 s1 "java/lang/String" "coder" "B" (.int (0 : Int32))) (Bx : AL Z h0 v k .byte (by8 [x0, x1, x2])) (SC : Sta Z Z.heap "java/lang/String" "COMPACT_STRINGS" "Z" (.int cP)) (SF : Sta Z Z.heap "jdk/internal/util/Preconditions" "SIOOBE_FORMATTER" "Ljava/util/function/BiFunction;" fm) (hP : ¬ cP = (0 : Int32)) (hfm : fm.category = 1) :
    Met1 l Z mN11 jdk_42_method_91_code 2 (some (.object "java/lang/String")) ({ frames := 5, cells := 2, slots := 6, locals := 80 } : Room) #[(.ref s1), (.int (1 : Int32))] h0 (Q_su113 Z s1 v k x0 x1 x2 cP fm h0) := by
  refine Met1.of_body (Ls := #[.val (.ref s1), .val (.int (1 : Int32))]) pf_21 (fun m => by first | (simp [entryFrame, mkF, argsToLocals, Value.category]; done) | rfl) ?_
  intro p e s m below meth c T0 C X0 e0
  have N0 : Fr Z.heap.size [] := Fr.nil _
  refine Go.aloadN (pc' := 1) C X0 d21_0 rfl rfl rfl ?_
  refine Go.iloadN (pc' := 2) C X0 d21_1 rfl rfl ?_
  refine Go.aloadN (pc' := 3) C X0 d21_2 rfl rfl rfl ?_
  refine Go.callV (y := mN10) (z := mN10) (a := s1) (pc' := 6) C X0 (tw hw 39 rfl) (tw hw 40 rfl) (notFace_at C.2.1 (tw hw 42 rfl)) (tw hw 42 rfl) (tw hw 41 rfl) E0 (by decide) (rm_len l Z a0 hw s1 v k ([x0, x1, x2]) cP ((3 : Int32)) h0 O0 E0 Fv Fc Bx SC hP rfl) (tw hw 43 rfl) (tw hw 11 rfl) e0 (argsL := []) (rest := [(.int (1 : Int32)), (.ref s1)]) (W := 2) rfl rfl pd_11 rfl (Nat.le_of_eq rfl) rfl (by decide) (by decide) (by decide) (by decide) d21_3 rfl ?_
  intro T101 v101 L101 X101 q101
  obtain ⟨rfl, rfl, e101⟩ := q101
  have N101 := Fr.app N0 (Fr.nil _)
  refine Go.callV (y := mN12) (z := mN12) (a := s1) (pc' := 9) C X101 (tw hw 101 rfl) (tw hw 102 rfl) (notFace_at C.2.1 (tw hw 104 rfl)) (tw hw 104 rfl) (tw hw 103 rfl) E0 (by decide) (rm_sub13 l Z a0 hw s1 v k x0 x1 x2 cP fm h0 O0 E0 Fv Fc Bx SC SF hP hfm) (tw hw 105 rfl) (tw hw 11 rfl) e101 (argsL := [(.int (1 : Int32)), (.int (3 : Int32))]) (rest := []) (W := 0) rfl rfl pd_15 rfl (Nat.le_of_eq rfl) rfl (by decide) (by decide) (by decide) (by decide) d21_6 rfl ?_
  intro T102 v102 L102 X102 q102
  obtain ⟨r_102, u_102, ku_102, rfl, N102q, K102, B102_0, B102_1, P102_0, P102_1, P102_2, P102_3⟩ := q102
  have N102 := Fr.app N101 N102q
  have n_r_102 : Z.heap.size ≤ r_102 := Nat.le_trans O0.1 B102_0
  have z_r_102 : h0.size ≤ r_102 := Nat.le_trans (Nat.le_refl _) B102_0
  have n_u_102 : Z.heap.size ≤ u_102 := Nat.le_trans O0.1 B102_1
  have z_u_102 : h0.size ≤ u_102 := Nat.le_trans (Nat.le_refl _) B102_1
  have K103 : Keep h0 T102.heap [] := ((Keep.refl h0 []).trans K102 all0)
  exact Go.retA C X102 rfl d21_9 rfl rfl rfl ⟨r_102, u_102, ku_102, rfl, N102, K103, z_r_102, z_u_102, P102_0, P102_1, P102_2, P102_3⟩ (by decide) (by decide)
def Q_crb23 (Z : State) (v : Addr) (k : ClassId) (x0 : Int32) (x1 : Int32) (x2 : Int32) (h0 : Heap) (rv : Option Value) (h : Heap) (L : List Loc) : Prop := ∃ u : Addr, ∃ ku : ClassId, rv = some (.ref u) ∧ Fr Z.heap.size L ∧ Keep h0 h [] ∧ h0.size ≤ u ∧ AL Z h u ku .byte (by8 [x2])
theorem rm_crb23 (l : Launch) (Z : State) (a0 : Array Value) (hw : ∀ d ∈ tables_1, d.before a0 Z = true) (v : Addr) (k : ClassId) (x0 : Int32) (x1 : Int32) (x2 : Int32) (h0 : Heap) (O0 : Ext Z.heap h0) (Bx : AL Z h0 v k .byte (by8 [x0, x1, x2])) :
    Met1 l Z mN22 jdk_65_method_133_code 5 (some (.array .byte)) ({ frames := 1, cells := 1, slots := 1, locals := 18 } : Room) #[(.ref v), (.int (2 : Int32)), (.int (3 : Int32))] h0 (Q_crb23 Z v k x0 x1 x2 h0) := by
  refine Met1.of_body (Ls := #[.val (.ref v), .val (.int (2 : Int32)), .val (.int (3 : Int32)), .unset, .unset]) pf_33 (fun m => by first | (simp [entryFrame, mkF, argsToLocals, Value.category]; done) | rfl) ?_
  intro p e s m below meth c T0 C X0 e0
  have N0 : Fr Z.heap.size [] := Fr.nil _
  refine Go.iloadN (pc' := 1) C X0 d33_0 rfl rfl ?_
  refine Go.iloadN (pc' := 2) C X0 d33_1 rfl rfl ?_
  refine Go.callS (y := mN20) (pc' := 5) C X0 (tw hw 154 rfl) (tw hw 155 rfl) (by decide) (rm_ckl l Z a0 hw ((2 : Int32)) ((3 : Int32)) h0 O0 (by first | assumption | decide | omega)) (tw hw 156 rfl) (tw hw 149 rfl) e0 (argsL := [(.int (2 : Int32)), (.int (3 : Int32))]) (rest := []) (W := 0) rfl rfl pd_16 rfl (Nat.le_of_eq rfl) rfl (by decide) (by decide) (by decide) (by decide) d33_2 rfl ?_
  intro T101 v101 L101 X101 q101
  obtain ⟨rfl, rfl, e101⟩ := q101
  have N101 := Fr.app N0 (Fr.nil _)
  refine Go.iloadN (pc' := 6) C X101 d33_5 rfl rfl ?_
  refine Go.iloadN (pc' := 7) C X101 d33_6 rfl rfl ?_
  refine Go.isub (pc' := 8) C X101 d33_7 rfl ?_
  rw [show ((3 : Int32) - (2 : Int32)) = (1 : Int32) from by decide]
  refine Go.istoreN (Ls' := #[.val (.ref v), .val (.int (2 : Int32)), .val (.int (3 : Int32)), .val (.int (1 : Int32)), .unset]) (pc' := 9) C X101 d33_8 rfl rfl ?_
  refine Go.iloadN (pc' := 10) C X101 d33_9 rfl rfl ?_
  refine Go.newP (aty := .byte) (cap := 1) (vs := [(.int (0 : Int32))]) (ad := "[B") (pc' := 12) C X101 (by decide) (tw hw 23 rfl) e101 (by decide) (by decide) (by decide) (by decide) (by decide) rfl d33_10 rfl ?_
  intro T102 h102 b102 k102 X102 e102 g102 E102 A102 Ea102
  have n_b102 : Z.heap.size ≤ b102 := Nat.le_trans O0.1 (Nat.le_of_eq g102.symm)
  have z_b102 : h0.size ≤ b102 := Nat.le_trans (Nat.le_refl _) (Nat.le_of_eq g102.symm)
  have A102 : AL Z h102 b102 k102 .byte [(.int (0 : Int32))] := A102
  refine Go.astore (Ls' := #[.val (.ref v), .val (.int (2 : Int32)), .val (.int (3 : Int32)), .val (.int (1 : Int32)), .val (.ref b102)]) (pc' := 14) C X102 d33_12 rfl rfl rfl ?_
  refine Go.aloadN (pc' := 15) C X102 d33_14 rfl rfl rfl ?_
  refine Go.iloadN (pc' := 16) C X102 d33_15 rfl rfl ?_
  refine Go.aload (pc' := 18) C X102 d33_16 rfl rfl rfl ?_
  refine Go.iconst (z := (0 : Int32)) (pc' := 19) C X102 d33_18 rfl rfl ?_
  refine Go.aloadN (pc' := 20) C X102 d33_19 rfl rfl rfl ?_
  have c103 : AL Z h102 v k .byte (by8 [x0, x1, x2]) := (AL.ext E102 Bx)
  refine Go.alen (z := (3 : Int32)) (pc' := 21) C X102 e102 c103 (by rw [by8_len]; rfl) d33_20 rfl ?_
  refine Go.iloadN (pc' := 22) C X102 d33_21 rfl rfl ?_
  refine Go.isub (pc' := 23) C X102 d33_22 rfl ?_
  rw [show ((3 : Int32) - (2 : Int32)) = (1 : Int32) from by decide]
  refine Go.iloadN (pc' := 24) C X102 d33_23 rfl rfl ?_
  have O105 : Ext Z.heap h102 := (Ext.trans O0 E102)
  refine Go.callS (y := mN0) (pc' := 27) C X102 (tw hw 157 rfl) (tw hw 68 rfl) (by decide) (rm_mn l Z a0 hw ((1 : Int32)) h102 O105 ) (tw hw 70 rfl) (tw hw 69 rfl) e102 (argsL := [(.int (1 : Int32)), (.int (1 : Int32))]) (rest := [(.int (0 : Int32)), (.ref b102), (.int (2 : Int32)), (.ref v)]) (W := 4) rfl rfl pd_17 rfl (Nat.le_of_eq rfl) rfl (by decide) (by decide) (by decide) (by decide) d33_24 rfl ?_
  intro T104 v104 L104 X104 q104
  obtain ⟨rfl, rfl, e104⟩ := q104
  have N104 := Fr.app N101 (Fr.nil _)
  refine Go.arrcopy (i := 2) (j := 0) (n := 1) (vd' := (by8 [x2])) (W := 0) (n0 := Z.heap.size) (pc' := 30) C X104 (tw hw 158 rfl) (tw hw 161 rfl) (tw hw 159 rfl) (tw hw 160 rfl) e104 c103 A102 (fit8 _) (fit0 1) (by rw [by8_len]; simp) (by simp) (Or.inl ⟨rfl, rfl⟩) (by decide) (by decide) (by decide) (by decide) (by decide) (by decide) (by rw [by8_len]; simp) (by simp) rfl N104 n_b102 rfl (by decide) (Nat.le_of_eq rfl) (by decide) d33_27 rfl ?_
  intro T106 h106 L106 X106 e106 N106 K106 A106
  refine Go.aload (pc' := 32) C X106 d33_30 rfl rfl rfl ?_
  have K107 : Keep h0 h106 [] := (((Keep.refl h0 []).ext E102).trans K106 (allS (Or.inr z_b102) all0))
  exact Go.retA C X106 rfl d33_32 rfl rfl rfl (by rw [e106]; exact ⟨b102, k102, rfl, N106, K107, z_b102, A106⟩) (by decide) (by decide)
def Q_cra23 (Z : State) (v : Addr) (k : ClassId) (x0 : Int32) (x1 : Int32) (x2 : Int32) (h0 : Heap) (rv : Option Value) (h : Heap) (L : List Loc) : Prop := ∃ u : Addr, ∃ ku : ClassId, rv = some (.ref u) ∧ Fr Z.heap.size L ∧ Keep h0 h [] ∧ h0.size ≤ u ∧ AL Z h u ku .byte (by8 [x2])
theorem rm_cra23 (l : Launch) (Z : State) (a0 : Array Value) (hw : ∀ d ∈ tables_1, d.before a0 Z = true) (v : Addr) (k : ClassId) (x0 : Int32) (x1 : Int32) (x2 : Int32) (h0 : Heap) (O0 : Ext Z.heap h0) (Bx : AL Z h0 v k .byte (by8 [x0, x1, x2])) :
    Met1 l Z mN21 jdk_65_method_132_code 3 (some (.array .byte)) ({ frames := 2, cells := 1, slots := 1, locals := 34 } : Room) #[(.ref v), (.int (2 : Int32)), (.int (3 : Int32))] h0 (Q_cra23 Z v k x0 x1 x2 h0) := by
  refine Met1.of_body (Ls := #[.val (.ref v), .val (.int (2 : Int32)), .val (.int (3 : Int32))]) pf_32 (fun m => by first | (simp [entryFrame, mkF, argsToLocals, Value.category]; done) | rfl) ?_
  intro p e s m below meth c T0 C X0 e0
  have N0 : Fr Z.heap.size [] := Fr.nil _
  refine Go.iloadN (pc' := 1) C X0 d32_0 rfl rfl ?_
  refine Go.ifYes (pc' := 10) C X0 d32_1 ((if0 _ _).trans (feq (x := (2 : Int32)) (y := (0 : Int32)) (by decide)).2) (by decide) (by decide) ?_
  refine Go.aloadN (pc' := 11) C X0 d32_10 rfl rfl rfl ?_
  refine Go.iloadN (pc' := 12) C X0 d32_11 rfl rfl ?_
  refine Go.iloadN (pc' := 13) C X0 d32_12 rfl rfl ?_
  refine Go.callS (y := mN22) (pc' := 16) C X0 (tw hw 151 rfl) (tw hw 152 rfl) (by decide) (rm_crb23 l Z a0 hw v k x0 x1 x2 h0 O0 Bx) (tw hw 153 rfl) (tw hw 149 rfl) e0 (argsL := [(.ref v), (.int (2 : Int32)), (.int (3 : Int32))]) (rest := []) (W := 0) rfl rfl pd_18 rfl (Nat.le_of_eq rfl) rfl (by decide) (by decide) (by decide) (by decide) d32_13 rfl ?_
  intro T102 v102 L102 X102 q102
  obtain ⟨u_102, ku_102, rfl, N102q, K102, B102_0, P102_0⟩ := q102
  have N102 := Fr.app N0 N102q
  have n_u_102 : Z.heap.size ≤ u_102 := Nat.le_trans O0.1 B102_0
  have z_u_102 : h0.size ≤ u_102 := Nat.le_trans (Nat.le_refl _) B102_0
  have K103 : Keep h0 T102.heap [] := ((Keep.refl h0 []).trans K102 all0)
  exact Go.retA C X102 rfl d32_16 rfl rfl rfl ⟨u_102, ku_102, rfl, N102, K103, z_u_102, P102_0⟩ (by decide) (by decide)
def Q_nst23 (Z : State) (v : Addr) (k : ClassId) (x0 : Int32) (x1 : Int32) (x2 : Int32) (h0 : Heap) (rv : Option Value) (h : Heap) (L : List Loc) : Prop := ∃ r : Addr, ∃ u : Addr, ∃ ku : ClassId, rv = some (.ref r) ∧ Fr Z.heap.size L ∧ Keep h0 h [] ∧ h0.size ≤ r ∧ h0.size ≤ u ∧ Exa Z h r "java/lang/String" ∧ Fld Z h r "java/lang/String" "value" "[B" (.ref u) ∧ Fld Z h r "java/lang/String" "coder" "B" (.int (0 : Int32)) ∧ AL Z h u ku .byte (by8 [x2])
theorem rm_nst23 (l : Launch) (Z : State) (a0 : Array Value) (hw : ∀ d ∈ tables_1, d.before a0 Z = true) (v : Addr) (k : ClassId) (x0 : Int32) (x1 : Int32) (x2 : Int32) (h0 : Heap) (O0 : Ext Z.heap h0) (Bx : AL Z h0 v k .byte (by8 [x0, x1, x2])) :
    Met1 l Z mN16 jdk_43_method_47_code 3 (some (.object "java/lang/String")) ({ frames := 3, cells := 2, slots := 5, locals := 50 } : Room) #[(.ref v), (.int (2 : Int32)), (.int (1 : Int32))] h0 (Q_nst23 Z v k x0 x1 x2 h0) := by
  refine Met1.of_body (Ls := #[.val (.ref v), .val (.int (2 : Int32)), .val (.int (1 : Int32))]) pf_25 (fun m => by first | (simp [entryFrame, mkF, argsToLocals, Value.category]; done) | rfl) ?_
  intro p e s m below meth c T0 C X0 e0
  have N0 : Fr Z.heap.size [] := Fr.nil _
  refine Go.iloadN (pc' := 1) C X0 d25_0 rfl rfl ?_
  refine Go.ifYes (pc' := 7) C X0 d25_1 ((if0 _ _).trans (feq (x := (1 : Int32)) (y := (0 : Int32)) (by decide)).2) (by decide) (by decide) ?_
  refine Go.newO (pc' := 10) C X0 (tw hw 146 rfl) (tw hw 10 rfl) (tw hw 11 rfl) e0 (by decide) (by decide) d25_7 rfl ?_
  intro T102 h102 b102 X102 e102 g102 E102 A102 D102
  have n_b102 : Z.heap.size ≤ b102 := Nat.le_trans O0.1 (Nat.le_of_eq g102.symm)
  have z_b102 : h0.size ≤ b102 := Nat.le_trans (Nat.le_refl _) (Nat.le_of_eq g102.symm)
  have F102_value : Fld Z h102 b102 "java/lang/String" "value" "[B" .null := D102 (Or.inr (tw hw 24 rfl)) (ty := (.array .byte)) (by decide)
  have F102_coder : Fld Z h102 b102 "java/lang/String" "coder" "B" (.int (0 : Int32)) := D102 (Or.inr (tw hw 25 rfl)) (ty := .byte) (by decide)
  refine Go.dup (pc' := 11) C X102 d25_10 rfl rfl ?_
  refine Go.aloadN (pc' := 12) C X102 d25_11 rfl rfl rfl ?_
  refine Go.iloadN (pc' := 13) C X102 d25_12 rfl rfl ?_
  refine Go.iloadN (pc' := 14) C X102 d25_13 rfl rfl ?_
  refine Go.iloadN (pc' := 15) C X102 d25_14 rfl rfl ?_
  refine Go.iadd (pc' := 16) C X102 d25_15 rfl ?_
  rw [show ((2 : Int32) + (1 : Int32)) = (3 : Int32) from by decide]
  have c104 : AL Z h102 v k .byte (by8 [x0, x1, x2]) := (AL.ext E102 Bx)
  have O105 : Ext Z.heap h102 := (Ext.trans O0 E102)
  refine Go.callS (y := mN21) (pc' := 19) C X102 (tw hw 147 rfl) (tw hw 148 rfl) (by decide) (rm_cra23 l Z a0 hw v k x0 x1 x2 h102 O105 c104) (tw hw 150 rfl) (tw hw 149 rfl) e102 (argsL := [(.ref v), (.int (2 : Int32)), (.int (3 : Int32))]) (rest := [(.ref b102), (.ref b102)]) (W := 2) rfl rfl pd_18 rfl (Nat.le_of_eq rfl) rfl (by decide) (by decide) (by decide) (by decide) d25_16 rfl ?_
  intro T103 v103 L103 X103 q103
  obtain ⟨u_103, ku_103, rfl, N103q, K103, B103_0, P103_0⟩ := q103
  have N103 := Fr.app N0 N103q
  have n_u_103 : Z.heap.size ≤ u_103 := Nat.le_trans O105.1 B103_0
  have z_u_103 : h0.size ≤ u_103 := Nat.le_trans (Nat.le_trans (Nat.le_refl _) E102.1) B103_0
  refine Go.iconst (z := (0 : Int32)) (pc' := 20) C X103 d25_19 rfl rfl ?_
  have c107 : Exa Z T103.heap b102 "java/lang/String" := (Exa.keep A102 K103)
  have c108 : Fld Z T103.heap b102 "java/lang/String" "value" "[B" .null := (Fld.keep F102_value K103 nin0)
  have c109 : Fld Z T103.heap b102 "java/lang/String" "coder" "B" (.int (0 : Int32)) := (Fld.keep F102_coder K103 nin0)
  have O110 : Ext Z.heap T103.heap := (Ext.keep O105 K103 all0)
  refine Go.callI (y := mN1) (a := b102) (pc' := 23) C X103 rfl (tw hw 162 rfl) (tw hw 163 rfl) (by decide) (rm_sIb l Z a0 hw b102 u_103 T103.heap O110 c107 c108 c109 n_b102) (tw hw 164 rfl) (tw hw 11 rfl) rfl (argsL := [(.ref u_103), (.int (0 : Int32))]) (rest := [(.ref b102)]) (W := 1) rfl rfl pd_19 rfl (Nat.le_of_eq rfl) rfl (by decide) (by decide) (by decide) (by decide) rfl d25_20 rfl ?_
  intro T106 v106 L106 X106 q106
  obtain ⟨rfl, N106q, K106, P106_0, P106_1⟩ := q106
  have N106 := Fr.app N103 N106q
  have K111 : Keep h0 T106.heap [] := ((((Keep.refl h0 []).ext E102).trans K103 all0).trans K106 (allS (Or.inr z_b102) all0))
  have c112 : Exa Z T106.heap b102 "java/lang/String" := (Exa.keep c107 K106)
  have ne113 : u_103 ≠ b102 := (Nat.ne_of_gt (Nat.lt_of_lt_of_le A102.lt (Nat.le_trans (Nat.le_refl _) B103_0)))
  have c114 : AL Z T106.heap u_103 ku_103 .byte (by8 [x2]) := (AL.keep P103_0 K106 (ninS ne113 nin0))
  exact Go.retA C X106 rfl d25_23 rfl rfl rfl ⟨b102, u_103, ku_103, rfl, N106, K111, z_b102, z_u_103, c112, P106_0, P106_1, c114⟩ (by decide) (by decide)
def Q_sub23 (Z : State) (s1 : Addr) (v : Addr) (k : ClassId) (x0 : Int32) (x1 : Int32) (x2 : Int32) (cP : Int32) (fm : Value) (h0 : Heap) (rv : Option Value) (h : Heap) (L : List Loc) : Prop := ∃ r : Addr, ∃ u : Addr, ∃ ku : ClassId, rv = some (.ref r) ∧ Fr Z.heap.size L ∧ Keep h0 h [] ∧ h0.size ≤ r ∧ h0.size ≤ u ∧ Exa Z h r "java/lang/String" ∧ Fld Z h r "java/lang/String" "value" "[B" (.ref u) ∧ Fld Z h r "java/lang/String" "coder" "B" (.int (0 : Int32)) ∧ AL Z h u ku .byte (by8 [x2])
theorem rm_sub23 (l : Launch) (Z : State) (a0 : Array Value) (hw : ∀ d ∈ tables_1, d.before a0 Z = true) (s1 : Addr) (v : Addr) (k : ClassId) (x0 : Int32) (x1 : Int32) (x2 : Int32) (cP : Int32) (fm : Value) (h0 : Heap) (O0 : Ext Z.heap h0) (E0 : Exa Z h0 s1 "java/lang/String") (Fv : Fld Z h0 s1 "java/lang/String" "value" "[B" (.ref v)) (Fc : Fld Z h0 s1 "java/lang/String" "coder" "B" (.int (0 : Int32))) (Bx : AL Z h0 v k .byte (by8 [x0, x1, x2])) (SC : Sta Z Z.heap "java/lang/String" "COMPACT_STRINGS" "Z" (.int cP)) (SF : Sta Z Z.heap "jdk/internal/util/Preconditions" "SIOOBE_FORMATTER" "Ljava/util/function/BiFunction;" fm) (hP : ¬ cP = (0 : Int32)) (hfm : fm.category = 1) :
    Met1 l Z mN12 jdk_42_method_92_code 5 (some (.object "java/lang/String")) ({ frames := 4, cells := 2, slots := 5, locals := 64 } : Room) #[(.ref s1), (.int (2 : Int32)), (.int (3 : Int32))] h0 (Q_sub23 Z s1 v k x0 x1 x2 cP fm h0) := by
  refine Met1.of_body (Ls := #[.val (.ref s1), .val (.int (2 : Int32)), .val (.int (3 : Int32)), .unset, .unset]) pf_22 (fun m => by first | (simp [entryFrame, mkF, argsToLocals, Value.category]; done) | rfl) ?_
  intro p e s m below meth c T0 C X0 e0
  have N0 : Fr Z.heap.size [] := Fr.nil _
  refine Go.aloadN (pc' := 1) C X0 d22_0 rfl rfl rfl ?_
  refine Go.callV (y := mN10) (z := mN10) (a := s1) (pc' := 4) C X0 (tw hw 39 rfl) (tw hw 40 rfl) (notFace_at C.2.1 (tw hw 42 rfl)) (tw hw 42 rfl) (tw hw 41 rfl) E0 (by decide) (rm_len l Z a0 hw s1 v k ([x0, x1, x2]) cP ((3 : Int32)) h0 O0 E0 Fv Fc Bx SC hP rfl) (tw hw 43 rfl) (tw hw 11 rfl) e0 (argsL := []) (rest := []) (W := 0) rfl rfl pd_11 rfl (Nat.le_of_eq rfl) rfl (by decide) (by decide) (by decide) (by decide) d22_1 rfl ?_
  intro T101 v101 L101 X101 q101
  obtain ⟨rfl, rfl, e101⟩ := q101
  have N101 := Fr.app N0 (Fr.nil _)
  refine Go.istoreN (Ls' := #[.val (.ref s1), .val (.int (2 : Int32)), .val (.int (3 : Int32)), .val (.int (3 : Int32)), .unset]) (pc' := 5) C X101 d22_4 rfl rfl ?_
  refine Go.iloadN (pc' := 6) C X101 d22_5 rfl rfl ?_
  refine Go.iloadN (pc' := 7) C X101 d22_6 rfl rfl ?_
  refine Go.iloadN (pc' := 8) C X101 d22_7 rfl rfl ?_
  refine Go.callS (y := mN4) (pc' := 11) C X101 (tw hw 106 rfl) (tw hw 107 rfl) (by decide) (rm_cbe l Z a0 hw ((2 : Int32)) ((3 : Int32)) fm h0 O0 SF (by first | assumption | decide | omega) (by first | assumption | decide | omega) hfm) (tw hw 108 rfl) (tw hw 11 rfl) e101 (argsL := [(.int (2 : Int32)), (.int (3 : Int32)), (.int (3 : Int32))]) (rest := []) (W := 0) rfl rfl pd_12 rfl (Nat.le_of_eq rfl) rfl (by decide) (by decide) (by decide) (by decide) d22_8 rfl ?_
  intro T102 v102 L102 X102 q102
  obtain ⟨rfl, rfl, e102⟩ := q102
  have N102 := Fr.app N101 (Fr.nil _)
  refine Go.iloadN (pc' := 12) C X102 d22_11 rfl rfl ?_
  refine Go.ifYes (pc' := 22) C X102 d22_12 ((if0 _ _).trans (feq (x := (2 : Int32)) (y := (0 : Int32)) (by decide)).2) (by decide) (by decide) ?_
  refine Go.iloadN (pc' := 23) C X102 d22_22 rfl rfl ?_
  refine Go.iloadN (pc' := 24) C X102 d22_23 rfl rfl ?_
  refine Go.isub (pc' := 25) C X102 d22_24 rfl ?_
  rw [show ((3 : Int32) - (2 : Int32)) = (1 : Int32) from by decide]
  refine Go.istore (Ls' := #[.val (.ref s1), .val (.int (2 : Int32)), .val (.int (3 : Int32)), .val (.int (3 : Int32)), .val (.int (1 : Int32))]) (pc' := 27) C X102 d22_25 rfl rfl ?_
  refine Go.aloadN (pc' := 28) C X102 d22_27 rfl rfl rfl ?_
  refine Go.callV (y := mN7) (z := mN7) (a := s1) (pc' := 31) C X102 (tw hw 55 rfl) (tw hw 56 rfl) (notFace_at C.2.1 (tw hw 58 rfl)) (tw hw 58 rfl) (tw hw 57 rfl) E0 (by decide) (rm_isL l Z a0 hw s1 cP h0 O0 Fc SC hP) (tw hw 59 rfl) (tw hw 11 rfl) e102 (argsL := []) (rest := []) (W := 0) rfl rfl pd_13 rfl (Nat.le_of_eq rfl) rfl (by decide) (by decide) (by decide) (by decide) d22_28 rfl ?_
  intro T104 v104 L104 X104 q104
  obtain ⟨rfl, rfl, e104⟩ := q104
  have N104 := Fr.app N102 (Fr.nil _)
  refine Go.ifNo (pc' := 34) C X104 d22_31 ((if0 _ _).trans (feq (x := (1 : Int32)) (y := (0 : Int32)) (by decide)).1) rfl ?_
  refine Go.aloadN (pc' := 35) C X104 d22_34 rfl rfl rfl ?_
  refine Go.getF (pc' := 38) (host := "") C X104 (Or.inl (tw hw 28 rfl)) Via.refl e104 Fv d22_35 rfl ?_
  intro T106 X106 e106
  refine Go.iloadN (pc' := 39) C X106 d22_38 rfl rfl ?_
  refine Go.iload (pc' := 41) C X106 d22_39 rfl rfl ?_
  refine Go.callS (y := mN16) (pc' := 44) C X106 (tw hw 114 rfl) (tw hw 115 rfl) (by decide) (rm_nst23 l Z a0 hw v k x0 x1 x2 h0 O0 Bx) (tw hw 116 rfl) (tw hw 62 rfl) e106 (argsL := [(.ref v), (.int (2 : Int32)), (.int (1 : Int32))]) (rest := []) (W := 0) rfl rfl pd_14 rfl (Nat.le_of_eq rfl) rfl (by decide) (by decide) (by decide) (by decide) d22_41 rfl ?_
  intro T107 v107 L107 X107 q107
  obtain ⟨r_107, u_107, ku_107, rfl, N107q, K107, B107_0, B107_1, P107_0, P107_1, P107_2, P107_3⟩ := q107
  have N107 := Fr.app N104 N107q
  have n_r_107 : Z.heap.size ≤ r_107 := Nat.le_trans O0.1 B107_0
  have z_r_107 : h0.size ≤ r_107 := Nat.le_trans (Nat.le_refl _) B107_0
  have n_u_107 : Z.heap.size ≤ u_107 := Nat.le_trans O0.1 B107_1
  have z_u_107 : h0.size ≤ u_107 := Nat.le_trans (Nat.le_refl _) B107_1
  refine Go.goto (pc' := 57) C X107 d22_44 (by decide) (by decide) ?_
  have K108 : Keep h0 T107.heap [] := ((Keep.refl h0 []).trans K107 all0)
  exact Go.retA C X107 rfl d22_57 rfl rfl rfl ⟨r_107, u_107, ku_107, rfl, N107, K108, z_r_107, z_u_107, P107_0, P107_1, P107_2, P107_3⟩ (by decide) (by decide)
def Q_su123 (Z : State) (s1 : Addr) (v : Addr) (k : ClassId) (x0 : Int32) (x1 : Int32) (x2 : Int32) (cP : Int32) (fm : Value) (h0 : Heap) (rv : Option Value) (h : Heap) (L : List Loc) : Prop := ∃ r : Addr, ∃ u : Addr, ∃ ku : ClassId, rv = some (.ref r) ∧ Fr Z.heap.size L ∧ Keep h0 h [] ∧ h0.size ≤ r ∧ h0.size ≤ u ∧ Exa Z h r "java/lang/String" ∧ Fld Z h r "java/lang/String" "value" "[B" (.ref u) ∧ Fld Z h r "java/lang/String" "coder" "B" (.int (0 : Int32)) ∧ AL Z h u ku .byte (by8 [x2])
theorem rm_su123 (l : Launch) (Z : State) (a0 : Array Value) (hw : ∀ d ∈ tables_1, d.before a0 Z = true) (s1 : Addr) (v : Addr) (k : ClassId) (x0 : Int32) (x1 : Int32) (x2 : Int32) (cP : Int32) (fm : Value) (h0 : Heap) (O0 : Ext Z.heap h0) (E0 : Exa Z h0 s1 "java/lang/String") (Fv : Fld Z h0 s1 "java/lang/String" "value" "[B" (.ref v)) (Fc : Fld Z h0 s1 "java/lang/String" "coder" "B" (.int (0 : Int32))) (Bx : AL Z h0 v k .byte (by8 [x0, x1, x2])) (SC : Sta Z Z.heap "java/lang/String" "COMPACT_STRINGS" "Z" (.int cP)) (SF : Sta Z Z.heap "jdk/internal/util/Preconditions" "SIOOBE_FORMATTER" "Ljava/util/function/BiFunction;" fm) (hP : ¬ cP = (0 : Int32)) (hfm : fm.category = 1) :
    Met1 l Z mN11 jdk_42_method_91_code 2 (some (.object "java/lang/String")) ({ frames := 5, cells := 2, slots := 5, locals := 80 } : Room) #[(.ref s1), (.int (2 : Int32))] h0 (Q_su123 Z s1 v k x0 x1 x2 cP fm h0) := by
  refine Met1.of_body (Ls := #[.val (.ref s1), .val (.int (2 : Int32))]) pf_21 (fun m => by first | (simp [entryFrame, mkF, argsToLocals, Value.category]; done) | rfl) ?_
  intro p e s m below meth c T0 C X0 e0
  have N0 : Fr Z.heap.size [] := Fr.nil _
  refine Go.aloadN (pc' := 1) C X0 d21_0 rfl rfl rfl ?_
  refine Go.iloadN (pc' := 2) C X0 d21_1 rfl rfl ?_
  refine Go.aloadN (pc' := 3) C X0 d21_2 rfl rfl rfl ?_
  refine Go.callV (y := mN10) (z := mN10) (a := s1) (pc' := 6) C X0 (tw hw 39 rfl) (tw hw 40 rfl) (notFace_at C.2.1 (tw hw 42 rfl)) (tw hw 42 rfl) (tw hw 41 rfl) E0 (by decide) (rm_len l Z a0 hw s1 v k ([x0, x1, x2]) cP ((3 : Int32)) h0 O0 E0 Fv Fc Bx SC hP rfl) (tw hw 43 rfl) (tw hw 11 rfl) e0 (argsL := []) (rest := [(.int (2 : Int32)), (.ref s1)]) (W := 2) rfl rfl pd_11 rfl (Nat.le_of_eq rfl) rfl (by decide) (by decide) (by decide) (by decide) d21_3 rfl ?_
  intro T101 v101 L101 X101 q101
  obtain ⟨rfl, rfl, e101⟩ := q101
  have N101 := Fr.app N0 (Fr.nil _)
  refine Go.callV (y := mN12) (z := mN12) (a := s1) (pc' := 9) C X101 (tw hw 101 rfl) (tw hw 102 rfl) (notFace_at C.2.1 (tw hw 104 rfl)) (tw hw 104 rfl) (tw hw 103 rfl) E0 (by decide) (rm_sub23 l Z a0 hw s1 v k x0 x1 x2 cP fm h0 O0 E0 Fv Fc Bx SC SF hP hfm) (tw hw 105 rfl) (tw hw 11 rfl) e101 (argsL := [(.int (2 : Int32)), (.int (3 : Int32))]) (rest := []) (W := 0) rfl rfl pd_15 rfl (Nat.le_of_eq rfl) rfl (by decide) (by decide) (by decide) (by decide) d21_6 rfl ?_
  intro T102 v102 L102 X102 q102
  obtain ⟨r_102, u_102, ku_102, rfl, N102q, K102, B102_0, B102_1, P102_0, P102_1, P102_2, P102_3⟩ := q102
  have N102 := Fr.app N101 N102q
  have n_r_102 : Z.heap.size ≤ r_102 := Nat.le_trans O0.1 B102_0
  have z_r_102 : h0.size ≤ r_102 := Nat.le_trans (Nat.le_refl _) B102_0
  have n_u_102 : Z.heap.size ≤ u_102 := Nat.le_trans O0.1 B102_1
  have z_u_102 : h0.size ≤ u_102 := Nat.le_trans (Nat.le_refl _) B102_1
  have K103 : Keep h0 T102.heap [] := ((Keep.refl h0 []).trans K102 all0)
  exact Go.retA C X102 rfl d21_9 rfl rfl rfl ⟨r_102, u_102, ku_102, rfl, N102, K103, z_r_102, z_u_102, P102_0, P102_1, P102_2, P102_3⟩ (by decide) (by decide)
def Q_nst33 (Z : State) (v : Addr) (k : ClassId) (x0 : Int32) (x1 : Int32) (x2 : Int32) (h0 : Heap) (rv : Option Value) (h : Heap) (L : List Loc) : Prop := ∃ r : Addr, ∃ u : Addr, ∃ ku : ClassId, rv = some (.ref r) ∧ Fr Z.heap.size L ∧ Keep h0 h [] ∧ Exa Z h r "java/lang/String" ∧ Fld Z h r "java/lang/String" "value" "[B" (.ref u) ∧ Fld Z h r "java/lang/String" "coder" "B" (.int (0 : Int32)) ∧ AL Z h u ku .byte (by8 [])
theorem rm_nst33 (l : Launch) (Z : State) (a0 : Array Value) (hw : ∀ d ∈ tables_1, d.before a0 Z = true) (v : Addr) (k : ClassId) (x0 : Int32) (x1 : Int32) (x2 : Int32) (h0 : Heap) (O0 : Ext Z.heap h0) (Bx : AL Z h0 v k .byte (by8 [x0, x1, x2])) :
    Met1H consts_1 [] l Z mN16 jdk_43_method_47_code 3 (some (.object "java/lang/String")) ({ frames := 0, cells := 2, slots := 4, locals := 0 } : Room) #[(.ref v), (.int (3 : Int32)), (.int (0 : Int32))] h0 (Q_nst33 Z v k x0 x1 x2 h0) := by
  refine Met1H.of_body (Ls := #[.val (.ref v), .val (.int (3 : Int32)), .val (.int (0 : Int32))]) pf_25 (fun m => by first | (simp [entryFrame, mkF, argsToLocals, Value.category]; done) | rfl) ?_
  intro p e s m below meth c T0 C X0 e0 hH0 hsf0
  have Hr0 := CHr.refl hH0
  have N0 : Fr Z.heap.size [] := Fr.nil _
  have Si0 : Sin s s h0 := Sin.start s h0
  refine Go.iloadN (pc' := 1) C X0 d25_0 rfl rfl ?_
  refine Go.ifNo (pc' := 4) C X0 d25_1 ((if0 _ _).trans (teq (x := (0 : Int32)) (y := (0 : Int32)) (by decide)).2) rfl ?_
  refine Go.ldcH (pc' := 6) (n := 0) (vs := []) (z := (0 : Int32)) C X0 Si0 (EWc hw) Hr0.1 (tw hw 117 rfl) (wS hw) e0 (by decide) (by decide) (by decide) (by decide) (by decide) (by decide) (by decide) (by decide) d25_4 rfl ?_
  intro T102 h102 b102 sC102 v102 k102 C102 X102 e102 Si102 E102 hR102 A102 F102c F102v B102 hne102
  have Hr103 := CHr.trans Hr0 hR102
  have K104 : Keep h0 h102 [] := ((Keep.refl h0 []).ext E102)
  exact Go.retAH C102 X102 (by rw [e102]; exact Si102) (EWc hw) (by rw [e102]; exact Hr103) rfl d25_6 rfl rfl rfl (by rw [e102]; exact ⟨b102, v102, k102, rfl, N0, K104, A102, F102v, F102c, B102⟩) (by decide) (by decide)
def Q_sub33 (Z : State) (s1 : Addr) (v : Addr) (k : ClassId) (x0 : Int32) (x1 : Int32) (x2 : Int32) (cP : Int32) (fm : Value) (h0 : Heap) (rv : Option Value) (h : Heap) (L : List Loc) : Prop := ∃ r : Addr, ∃ u : Addr, ∃ ku : ClassId, rv = some (.ref r) ∧ Fr Z.heap.size L ∧ Keep h0 h [] ∧ Exa Z h r "java/lang/String" ∧ Fld Z h r "java/lang/String" "value" "[B" (.ref u) ∧ Fld Z h r "java/lang/String" "coder" "B" (.int (0 : Int32)) ∧ AL Z h u ku .byte (by8 [])
theorem rm_sub33 (l : Launch) (Z : State) (a0 : Array Value) (hw : ∀ d ∈ tables_1, d.before a0 Z = true) (s1 : Addr) (v : Addr) (k : ClassId) (x0 : Int32) (x1 : Int32) (x2 : Int32) (cP : Int32) (fm : Value) (h0 : Heap) (O0 : Ext Z.heap h0) (E0 : Exa Z h0 s1 "java/lang/String") (Fv : Fld Z h0 s1 "java/lang/String" "value" "[B" (.ref v)) (Fc : Fld Z h0 s1 "java/lang/String" "coder" "B" (.int (0 : Int32))) (Bx : AL Z h0 v k .byte (by8 [x0, x1, x2])) (SC : Sta Z Z.heap "java/lang/String" "COMPACT_STRINGS" "Z" (.int cP)) (SF : Sta Z Z.heap "jdk/internal/util/Preconditions" "SIOOBE_FORMATTER" "Ljava/util/function/BiFunction;" fm) (hP : ¬ cP = (0 : Int32)) (hfm : fm.category = 1) :
    Met1H consts_1 [] l Z mN12 jdk_42_method_92_code 5 (some (.object "java/lang/String")) ({ frames := 2, cells := 2, slots := 4, locals := 29 } : Room) #[(.ref s1), (.int (3 : Int32)), (.int (3 : Int32))] h0 (Q_sub33 Z s1 v k x0 x1 x2 cP fm h0) := by
  refine Met1H.of_body (Ls := #[.val (.ref s1), .val (.int (3 : Int32)), .val (.int (3 : Int32)), .unset, .unset]) pf_22 (fun m => by first | (simp [entryFrame, mkF, argsToLocals, Value.category]; done) | rfl) ?_
  intro p e s m below meth c T0 C X0 e0 hH0 hsf0
  have Hr0 := CHr.refl hH0
  have N0 : Fr Z.heap.size [] := Fr.nil _
  have Si0 : Sin s s h0 := Sin.start s h0
  refine Go.aloadN (pc' := 1) C X0 d22_0 rfl rfl rfl ?_
  refine Go.callV (y := mN10) (z := mN10) (a := s1) (pc' := 4) C X0 (tw hw 39 rfl) (tw hw 40 rfl) (notFace_at C.2.1 (tw hw 42 rfl)) (tw hw 42 rfl) (tw hw 41 rfl) E0 (by decide) (rm_len l Z a0 hw s1 v k ([x0, x1, x2]) cP ((3 : Int32)) h0 O0 E0 Fv Fc Bx SC hP rfl) (tw hw 43 rfl) (tw hw 11 rfl) e0 (argsL := []) (rest := []) (W := 0) rfl rfl pd_11 rfl (Nat.le_of_eq rfl) rfl (by decide) (by decide) (by decide) (by decide) d22_1 rfl ?_
  intro T101 v101 L101 X101 q101
  obtain ⟨rfl, rfl, e101⟩ := q101
  have N101 := Fr.app N0 (Fr.nil _)
  refine Go.istoreN (Ls' := #[.val (.ref s1), .val (.int (3 : Int32)), .val (.int (3 : Int32)), .val (.int (3 : Int32)), .unset]) (pc' := 5) C X101 d22_4 rfl rfl ?_
  refine Go.iloadN (pc' := 6) C X101 d22_5 rfl rfl ?_
  refine Go.iloadN (pc' := 7) C X101 d22_6 rfl rfl ?_
  refine Go.iloadN (pc' := 8) C X101 d22_7 rfl rfl ?_
  refine Go.callS (y := mN4) (pc' := 11) C X101 (tw hw 106 rfl) (tw hw 107 rfl) (by decide) (rm_cbe l Z a0 hw ((3 : Int32)) ((3 : Int32)) fm h0 O0 SF (by first | assumption | decide | omega) (by first | assumption | decide | omega) hfm) (tw hw 108 rfl) (tw hw 11 rfl) e101 (argsL := [(.int (3 : Int32)), (.int (3 : Int32)), (.int (3 : Int32))]) (rest := []) (W := 0) rfl rfl pd_12 rfl (Nat.le_of_eq rfl) rfl (by decide) (by decide) (by decide) (by decide) d22_8 rfl ?_
  intro T102 v102 L102 X102 q102
  obtain ⟨rfl, rfl, e102⟩ := q102
  have N102 := Fr.app N101 (Fr.nil _)
  refine Go.iloadN (pc' := 12) C X102 d22_11 rfl rfl ?_
  refine Go.ifYes (pc' := 22) C X102 d22_12 ((if0 _ _).trans (feq (x := (3 : Int32)) (y := (0 : Int32)) (by decide)).2) (by decide) (by decide) ?_
  refine Go.iloadN (pc' := 23) C X102 d22_22 rfl rfl ?_
  refine Go.iloadN (pc' := 24) C X102 d22_23 rfl rfl ?_
  refine Go.isub (pc' := 25) C X102 d22_24 rfl ?_
  rw [show ((3 : Int32) - (3 : Int32)) = (0 : Int32) from by decide]
  refine Go.istore (Ls' := #[.val (.ref s1), .val (.int (3 : Int32)), .val (.int (3 : Int32)), .val (.int (3 : Int32)), .val (.int (0 : Int32))]) (pc' := 27) C X102 d22_25 rfl rfl ?_
  refine Go.aloadN (pc' := 28) C X102 d22_27 rfl rfl rfl ?_
  refine Go.callV (y := mN7) (z := mN7) (a := s1) (pc' := 31) C X102 (tw hw 55 rfl) (tw hw 56 rfl) (notFace_at C.2.1 (tw hw 58 rfl)) (tw hw 58 rfl) (tw hw 57 rfl) E0 (by decide) (rm_isL l Z a0 hw s1 cP h0 O0 Fc SC hP) (tw hw 59 rfl) (tw hw 11 rfl) e102 (argsL := []) (rest := []) (W := 0) rfl rfl pd_13 rfl (Nat.le_of_eq rfl) rfl (by decide) (by decide) (by decide) (by decide) d22_28 rfl ?_
  intro T104 v104 L104 X104 q104
  obtain ⟨rfl, rfl, e104⟩ := q104
  have N104 := Fr.app N102 (Fr.nil _)
  refine Go.ifNo (pc' := 34) C X104 d22_31 ((if0 _ _).trans (feq (x := (1 : Int32)) (y := (0 : Int32)) (by decide)).1) rfl ?_
  refine Go.aloadN (pc' := 35) C X104 d22_34 rfl rfl rfl ?_
  refine Go.getF (pc' := 38) (host := "") C X104 (Or.inl (tw hw 28 rfl)) Via.refl e104 Fv d22_35 rfl ?_
  intro T106 X106 e106
  refine Go.iloadN (pc' := 39) C X106 d22_38 rfl rfl ?_
  refine Go.iload (pc' := 41) C X106 d22_39 rfl rfl ?_
  refine Go.callSH (y := mN16) (pc' := 44) C X106 Si0 (EWc hw) Hr0.1 (tw hw 114 rfl) (tw hw 115 rfl) (by decide) all0 (rm_nst33 l Z a0 hw v k x0 x1 x2 h0 O0 Bx) (tw hw 116 rfl) (tw hw 62 rfl) e106 (argsL := [(.ref v), (.int (3 : Int32)), (.int (0 : Int32))]) (rest := []) (W := 0) rfl rfl pd_14 rfl (Nat.le_of_eq rfl) rfl (by decide) (by decide) (by decide) (by decide) d22_41 rfl ?_
  intro T107 v107 L107 sC107 C107 X107 Si107 hR107 q107
  obtain ⟨r_107, u_107, ku_107, rfl, N107q, K107, P107_0, P107_1, P107_2, P107_3⟩ := q107
  have N107 := Fr.app N104 N107q
  have Hr108 := CHr.trans Hr0 hR107
  refine Go.goto (pc' := 57) C107 X107 d22_44 (by decide) (by decide) ?_
  have K109 : Keep h0 T107.heap [] := ((Keep.refl h0 []).trans K107 all0)
  exact Go.retAH C107 X107 Si107 (EWc hw) Hr108 rfl d22_57 rfl rfl rfl ⟨r_107, u_107, ku_107, rfl, N107, K109, P107_0, P107_1, P107_2, P107_3⟩ (by decide) (by decide)
def Q_su133 (Z : State) (s1 : Addr) (v : Addr) (k : ClassId) (x0 : Int32) (x1 : Int32) (x2 : Int32) (cP : Int32) (fm : Value) (h0 : Heap) (rv : Option Value) (h : Heap) (L : List Loc) : Prop := ∃ r : Addr, ∃ u : Addr, ∃ ku : ClassId, rv = some (.ref r) ∧ Fr Z.heap.size L ∧ Keep h0 h [] ∧ Exa Z h r "java/lang/String" ∧ Fld Z h r "java/lang/String" "value" "[B" (.ref u) ∧ Fld Z h r "java/lang/String" "coder" "B" (.int (0 : Int32)) ∧ AL Z h u ku .byte (by8 [])
theorem rm_su133 (l : Launch) (Z : State) (a0 : Array Value) (hw : ∀ d ∈ tables_1, d.before a0 Z = true) (s1 : Addr) (v : Addr) (k : ClassId) (x0 : Int32) (x1 : Int32) (x2 : Int32) (cP : Int32) (fm : Value) (h0 : Heap) (O0 : Ext Z.heap h0) (E0 : Exa Z h0 s1 "java/lang/String") (Fv : Fld Z h0 s1 "java/lang/String" "value" "[B" (.ref v)) (Fc : Fld Z h0 s1 "java/lang/String" "coder" "B" (.int (0 : Int32))) (Bx : AL Z h0 v k .byte (by8 [x0, x1, x2])) (SC : Sta Z Z.heap "java/lang/String" "COMPACT_STRINGS" "Z" (.int cP)) (SF : Sta Z Z.heap "jdk/internal/util/Preconditions" "SIOOBE_FORMATTER" "Ljava/util/function/BiFunction;" fm) (hP : ¬ cP = (0 : Int32)) (hfm : fm.category = 1) :
    Met1H consts_1 [] l Z mN11 jdk_42_method_91_code 2 (some (.object "java/lang/String")) ({ frames := 3, cells := 2, slots := 4, locals := 45 } : Room) #[(.ref s1), (.int (3 : Int32))] h0 (Q_su133 Z s1 v k x0 x1 x2 cP fm h0) := by
  refine Met1H.of_body (Ls := #[.val (.ref s1), .val (.int (3 : Int32))]) pf_21 (fun m => by first | (simp [entryFrame, mkF, argsToLocals, Value.category]; done) | rfl) ?_
  intro p e s m below meth c T0 C X0 e0 hH0 hsf0
  have Hr0 := CHr.refl hH0
  have N0 : Fr Z.heap.size [] := Fr.nil _
  have Si0 : Sin s s h0 := Sin.start s h0
  refine Go.aloadN (pc' := 1) C X0 d21_0 rfl rfl rfl ?_
  refine Go.iloadN (pc' := 2) C X0 d21_1 rfl rfl ?_
  refine Go.aloadN (pc' := 3) C X0 d21_2 rfl rfl rfl ?_
  refine Go.callV (y := mN10) (z := mN10) (a := s1) (pc' := 6) C X0 (tw hw 39 rfl) (tw hw 40 rfl) (notFace_at C.2.1 (tw hw 42 rfl)) (tw hw 42 rfl) (tw hw 41 rfl) E0 (by decide) (rm_len l Z a0 hw s1 v k ([x0, x1, x2]) cP ((3 : Int32)) h0 O0 E0 Fv Fc Bx SC hP rfl) (tw hw 43 rfl) (tw hw 11 rfl) e0 (argsL := []) (rest := [(.int (3 : Int32)), (.ref s1)]) (W := 2) rfl rfl pd_11 rfl (Nat.le_of_eq rfl) rfl (by decide) (by decide) (by decide) (by decide) d21_3 rfl ?_
  intro T101 v101 L101 X101 q101
  obtain ⟨rfl, rfl, e101⟩ := q101
  have N101 := Fr.app N0 (Fr.nil _)
  refine Go.callVH (y := mN12) (z := mN12) (a := s1) (pc' := 9) C X101 Si0 (EWc hw) Hr0.1 (tw hw 101 rfl) (tw hw 102 rfl) (notFace_at C.2.1 (tw hw 104 rfl)) (tw hw 104 rfl) (tw hw 103 rfl) E0 (by decide) all0 (rm_sub33 l Z a0 hw s1 v k x0 x1 x2 cP fm h0 O0 E0 Fv Fc Bx SC SF hP hfm) (tw hw 105 rfl) (tw hw 11 rfl) e101 (argsL := [(.int (3 : Int32)), (.int (3 : Int32))]) (rest := []) (W := 0) rfl rfl pd_15 rfl (Nat.le_of_eq rfl) rfl (by decide) (by decide) (by decide) (by decide) d21_6 rfl ?_
  intro T102 v102 L102 sC102 C102 X102 Si102 hR102 q102
  obtain ⟨r_102, u_102, ku_102, rfl, N102q, K102, P102_0, P102_1, P102_2, P102_3⟩ := q102
  have N102 := Fr.app N101 N102q
  have Hr103 := CHr.trans Hr0 hR102
  have K104 : Keep h0 T102.heap [] := ((Keep.refl h0 []).trans K102 all0)
  exact Go.retAH C102 X102 Si102 (EWc hw) Hr103 rfl d21_9 rfl rfl rfl ⟨r_102, u_102, ku_102, rfl, N102, K104, P102_0, P102_1, P102_2, P102_3⟩ (by decide) (by decide)
def Q_crb14 (Z : State) (v : Addr) (k : ClassId) (x0 : Int32) (x1 : Int32) (x2 : Int32) (x3 : Int32) (h0 : Heap) (rv : Option Value) (h : Heap) (L : List Loc) : Prop := ∃ u : Addr, ∃ ku : ClassId, rv = some (.ref u) ∧ Fr Z.heap.size L ∧ Keep h0 h [] ∧ h0.size ≤ u ∧ AL Z h u ku .byte (by8 [x1, x2, x3])
theorem rm_crb14 (l : Launch) (Z : State) (a0 : Array Value) (hw : ∀ d ∈ tables_1, d.before a0 Z = true) (v : Addr) (k : ClassId) (x0 : Int32) (x1 : Int32) (x2 : Int32) (x3 : Int32) (h0 : Heap) (O0 : Ext Z.heap h0) (Bx : AL Z h0 v k .byte (by8 [x0, x1, x2, x3])) :
    Met1 l Z mN22 jdk_65_method_133_code 5 (some (.array .byte)) ({ frames := 1, cells := 1, slots := 3, locals := 18 } : Room) #[(.ref v), (.int (1 : Int32)), (.int (4 : Int32))] h0 (Q_crb14 Z v k x0 x1 x2 x3 h0) := by
  refine Met1.of_body (Ls := #[.val (.ref v), .val (.int (1 : Int32)), .val (.int (4 : Int32)), .unset, .unset]) pf_33 (fun m => by first | (simp [entryFrame, mkF, argsToLocals, Value.category]; done) | rfl) ?_
  intro p e s m below meth c T0 C X0 e0
  have N0 : Fr Z.heap.size [] := Fr.nil _
  refine Go.iloadN (pc' := 1) C X0 d33_0 rfl rfl ?_
  refine Go.iloadN (pc' := 2) C X0 d33_1 rfl rfl ?_
  refine Go.callS (y := mN20) (pc' := 5) C X0 (tw hw 154 rfl) (tw hw 155 rfl) (by decide) (rm_ckl l Z a0 hw ((1 : Int32)) ((4 : Int32)) h0 O0 (by first | assumption | decide | omega)) (tw hw 156 rfl) (tw hw 149 rfl) e0 (argsL := [(.int (1 : Int32)), (.int (4 : Int32))]) (rest := []) (W := 0) rfl rfl pd_16 rfl (Nat.le_of_eq rfl) rfl (by decide) (by decide) (by decide) (by decide) d33_2 rfl ?_
  intro T101 v101 L101 X101 q101
  obtain ⟨rfl, rfl, e101⟩ := q101
  have N101 := Fr.app N0 (Fr.nil _)
  refine Go.iloadN (pc' := 6) C X101 d33_5 rfl rfl ?_
  refine Go.iloadN (pc' := 7) C X101 d33_6 rfl rfl ?_
  refine Go.isub (pc' := 8) C X101 d33_7 rfl ?_
  rw [show ((4 : Int32) - (1 : Int32)) = (3 : Int32) from by decide]
  refine Go.istoreN (Ls' := #[.val (.ref v), .val (.int (1 : Int32)), .val (.int (4 : Int32)), .val (.int (3 : Int32)), .unset]) (pc' := 9) C X101 d33_8 rfl rfl ?_
  refine Go.iloadN (pc' := 10) C X101 d33_9 rfl rfl ?_
  refine Go.newP (aty := .byte) (cap := 3) (vs := [(.int (0 : Int32)), (.int (0 : Int32)), (.int (0 : Int32))]) (ad := "[B") (pc' := 12) C X101 (by decide) (tw hw 23 rfl) e101 (by decide) (by decide) (by decide) (by decide) (by decide) rfl d33_10 rfl ?_
  intro T102 h102 b102 k102 X102 e102 g102 E102 A102 Ea102
  have n_b102 : Z.heap.size ≤ b102 := Nat.le_trans O0.1 (Nat.le_of_eq g102.symm)
  have z_b102 : h0.size ≤ b102 := Nat.le_trans (Nat.le_refl _) (Nat.le_of_eq g102.symm)
  have A102 : AL Z h102 b102 k102 .byte [(.int (0 : Int32)), (.int (0 : Int32)), (.int (0 : Int32))] := A102
  refine Go.astore (Ls' := #[.val (.ref v), .val (.int (1 : Int32)), .val (.int (4 : Int32)), .val (.int (3 : Int32)), .val (.ref b102)]) (pc' := 14) C X102 d33_12 rfl rfl rfl ?_
  refine Go.aloadN (pc' := 15) C X102 d33_14 rfl rfl rfl ?_
  refine Go.iloadN (pc' := 16) C X102 d33_15 rfl rfl ?_
  refine Go.aload (pc' := 18) C X102 d33_16 rfl rfl rfl ?_
  refine Go.iconst (z := (0 : Int32)) (pc' := 19) C X102 d33_18 rfl rfl ?_
  refine Go.aloadN (pc' := 20) C X102 d33_19 rfl rfl rfl ?_
  have c103 : AL Z h102 v k .byte (by8 [x0, x1, x2, x3]) := (AL.ext E102 Bx)
  refine Go.alen (z := (4 : Int32)) (pc' := 21) C X102 e102 c103 (by rw [by8_len]; rfl) d33_20 rfl ?_
  refine Go.iloadN (pc' := 22) C X102 d33_21 rfl rfl ?_
  refine Go.isub (pc' := 23) C X102 d33_22 rfl ?_
  rw [show ((4 : Int32) - (1 : Int32)) = (3 : Int32) from by decide]
  refine Go.iloadN (pc' := 24) C X102 d33_23 rfl rfl ?_
  have O105 : Ext Z.heap h102 := (Ext.trans O0 E102)
  refine Go.callS (y := mN0) (pc' := 27) C X102 (tw hw 157 rfl) (tw hw 68 rfl) (by decide) (rm_mn l Z a0 hw ((3 : Int32)) h102 O105 ) (tw hw 70 rfl) (tw hw 69 rfl) e102 (argsL := [(.int (3 : Int32)), (.int (3 : Int32))]) (rest := [(.int (0 : Int32)), (.ref b102), (.int (1 : Int32)), (.ref v)]) (W := 4) rfl rfl pd_17 rfl (Nat.le_of_eq rfl) rfl (by decide) (by decide) (by decide) (by decide) d33_24 rfl ?_
  intro T104 v104 L104 X104 q104
  obtain ⟨rfl, rfl, e104⟩ := q104
  have N104 := Fr.app N101 (Fr.nil _)
  refine Go.arrcopy (i := 1) (j := 0) (n := 3) (vd' := (by8 [x1, x2, x3])) (W := 0) (n0 := Z.heap.size) (pc' := 30) C X104 (tw hw 158 rfl) (tw hw 161 rfl) (tw hw 159 rfl) (tw hw 160 rfl) e104 c103 A102 (fit8 _) (fit0 3) (by rw [by8_len]; simp) (by simp) (Or.inl ⟨rfl, rfl⟩) (by decide) (by decide) (by decide) (by decide) (by decide) (by decide) (by rw [by8_len]; simp) (by simp) rfl N104 n_b102 rfl (by decide) (Nat.le_of_eq rfl) (by decide) d33_27 rfl ?_
  intro T106 h106 L106 X106 e106 N106 K106 A106
  refine Go.aload (pc' := 32) C X106 d33_30 rfl rfl rfl ?_
  have K107 : Keep h0 h106 [] := (((Keep.refl h0 []).ext E102).trans K106 (allS (Or.inr z_b102) all0))
  exact Go.retA C X106 rfl d33_32 rfl rfl rfl (by rw [e106]; exact ⟨b102, k102, rfl, N106, K107, z_b102, A106⟩) (by decide) (by decide)
def Q_cra14 (Z : State) (v : Addr) (k : ClassId) (x0 : Int32) (x1 : Int32) (x2 : Int32) (x3 : Int32) (h0 : Heap) (rv : Option Value) (h : Heap) (L : List Loc) : Prop := ∃ u : Addr, ∃ ku : ClassId, rv = some (.ref u) ∧ Fr Z.heap.size L ∧ Keep h0 h [] ∧ h0.size ≤ u ∧ AL Z h u ku .byte (by8 [x1, x2, x3])
theorem rm_cra14 (l : Launch) (Z : State) (a0 : Array Value) (hw : ∀ d ∈ tables_1, d.before a0 Z = true) (v : Addr) (k : ClassId) (x0 : Int32) (x1 : Int32) (x2 : Int32) (x3 : Int32) (h0 : Heap) (O0 : Ext Z.heap h0) (Bx : AL Z h0 v k .byte (by8 [x0, x1, x2, x3])) :
    Met1 l Z mN21 jdk_65_method_132_code 3 (some (.array .byte)) ({ frames := 2, cells := 1, slots := 3, locals := 34 } : Room) #[(.ref v), (.int (1 : Int32)), (.int (4 : Int32))] h0 (Q_cra14 Z v k x0 x1 x2 x3 h0) := by
  refine Met1.of_body (Ls := #[.val (.ref v), .val (.int (1 : Int32)), .val (.int (4 : Int32))]) pf_32 (fun m => by first | (simp [entryFrame, mkF, argsToLocals, Value.category]; done) | rfl) ?_
  intro p e s m below meth c T0 C X0 e0
  have N0 : Fr Z.heap.size [] := Fr.nil _
  refine Go.iloadN (pc' := 1) C X0 d32_0 rfl rfl ?_
  refine Go.ifYes (pc' := 10) C X0 d32_1 ((if0 _ _).trans (feq (x := (1 : Int32)) (y := (0 : Int32)) (by decide)).2) (by decide) (by decide) ?_
  refine Go.aloadN (pc' := 11) C X0 d32_10 rfl rfl rfl ?_
  refine Go.iloadN (pc' := 12) C X0 d32_11 rfl rfl ?_
  refine Go.iloadN (pc' := 13) C X0 d32_12 rfl rfl ?_
  refine Go.callS (y := mN22) (pc' := 16) C X0 (tw hw 151 rfl) (tw hw 152 rfl) (by decide) (rm_crb14 l Z a0 hw v k x0 x1 x2 x3 h0 O0 Bx) (tw hw 153 rfl) (tw hw 149 rfl) e0 (argsL := [(.ref v), (.int (1 : Int32)), (.int (4 : Int32))]) (rest := []) (W := 0) rfl rfl pd_18 rfl (Nat.le_of_eq rfl) rfl (by decide) (by decide) (by decide) (by decide) d32_13 rfl ?_
  intro T102 v102 L102 X102 q102
  obtain ⟨u_102, ku_102, rfl, N102q, K102, B102_0, P102_0⟩ := q102
  have N102 := Fr.app N0 N102q
  have n_u_102 : Z.heap.size ≤ u_102 := Nat.le_trans O0.1 B102_0
  have z_u_102 : h0.size ≤ u_102 := Nat.le_trans (Nat.le_refl _) B102_0
  have K103 : Keep h0 T102.heap [] := ((Keep.refl h0 []).trans K102 all0)
  exact Go.retA C X102 rfl d32_16 rfl rfl rfl ⟨u_102, ku_102, rfl, N102, K103, z_u_102, P102_0⟩ (by decide) (by decide)
def Q_nst14 (Z : State) (v : Addr) (k : ClassId) (x0 : Int32) (x1 : Int32) (x2 : Int32) (x3 : Int32) (h0 : Heap) (rv : Option Value) (h : Heap) (L : List Loc) : Prop := ∃ r : Addr, ∃ u : Addr, ∃ ku : ClassId, rv = some (.ref r) ∧ Fr Z.heap.size L ∧ Keep h0 h [] ∧ h0.size ≤ r ∧ h0.size ≤ u ∧ Exa Z h r "java/lang/String" ∧ Fld Z h r "java/lang/String" "value" "[B" (.ref u) ∧ Fld Z h r "java/lang/String" "coder" "B" (.int (0 : Int32)) ∧ AL Z h u ku .byte (by8 [x1, x2, x3])
theorem rm_nst14 (l : Launch) (Z : State) (a0 : Array Value) (hw : ∀ d ∈ tables_1, d.before a0 Z = true) (v : Addr) (k : ClassId) (x0 : Int32) (x1 : Int32) (x2 : Int32) (x3 : Int32) (h0 : Heap) (O0 : Ext Z.heap h0) (Bx : AL Z h0 v k .byte (by8 [x0, x1, x2, x3])) :
    Met1 l Z mN16 jdk_43_method_47_code 3 (some (.object "java/lang/String")) ({ frames := 3, cells := 2, slots := 7, locals := 50 } : Room) #[(.ref v), (.int (1 : Int32)), (.int (3 : Int32))] h0 (Q_nst14 Z v k x0 x1 x2 x3 h0) := by
  refine Met1.of_body (Ls := #[.val (.ref v), .val (.int (1 : Int32)), .val (.int (3 : Int32))]) pf_25 (fun m => by first | (simp [entryFrame, mkF, argsToLocals, Value.category]; done) | rfl) ?_
  intro p e s m below meth c T0 C X0 e0
  have N0 : Fr Z.heap.size [] := Fr.nil _
  refine Go.iloadN (pc' := 1) C X0 d25_0 rfl rfl ?_
  refine Go.ifYes (pc' := 7) C X0 d25_1 ((if0 _ _).trans (feq (x := (3 : Int32)) (y := (0 : Int32)) (by decide)).2) (by decide) (by decide) ?_
  refine Go.newO (pc' := 10) C X0 (tw hw 146 rfl) (tw hw 10 rfl) (tw hw 11 rfl) e0 (by decide) (by decide) d25_7 rfl ?_
  intro T102 h102 b102 X102 e102 g102 E102 A102 D102
  have n_b102 : Z.heap.size ≤ b102 := Nat.le_trans O0.1 (Nat.le_of_eq g102.symm)
  have z_b102 : h0.size ≤ b102 := Nat.le_trans (Nat.le_refl _) (Nat.le_of_eq g102.symm)
  have F102_value : Fld Z h102 b102 "java/lang/String" "value" "[B" .null := D102 (Or.inr (tw hw 24 rfl)) (ty := (.array .byte)) (by decide)
  have F102_coder : Fld Z h102 b102 "java/lang/String" "coder" "B" (.int (0 : Int32)) := D102 (Or.inr (tw hw 25 rfl)) (ty := .byte) (by decide)
  refine Go.dup (pc' := 11) C X102 d25_10 rfl rfl ?_
  refine Go.aloadN (pc' := 12) C X102 d25_11 rfl rfl rfl ?_
  refine Go.iloadN (pc' := 13) C X102 d25_12 rfl rfl ?_
  refine Go.iloadN (pc' := 14) C X102 d25_13 rfl rfl ?_
  refine Go.iloadN (pc' := 15) C X102 d25_14 rfl rfl ?_
  refine Go.iadd (pc' := 16) C X102 d25_15 rfl ?_
  rw [show ((1 : Int32) + (3 : Int32)) = (4 : Int32) from by decide]
  have c104 : AL Z h102 v k .byte (by8 [x0, x1, x2, x3]) := (AL.ext E102 Bx)
  have O105 : Ext Z.heap h102 := (Ext.trans O0 E102)
  refine Go.callS (y := mN21) (pc' := 19) C X102 (tw hw 147 rfl) (tw hw 148 rfl) (by decide) (rm_cra14 l Z a0 hw v k x0 x1 x2 x3 h102 O105 c104) (tw hw 150 rfl) (tw hw 149 rfl) e102 (argsL := [(.ref v), (.int (1 : Int32)), (.int (4 : Int32))]) (rest := [(.ref b102), (.ref b102)]) (W := 2) rfl rfl pd_18 rfl (Nat.le_of_eq rfl) rfl (by decide) (by decide) (by decide) (by decide) d25_16 rfl ?_
  intro T103 v103 L103 X103 q103
  obtain ⟨u_103, ku_103, rfl, N103q, K103, B103_0, P103_0⟩ := q103
  have N103 := Fr.app N0 N103q
  have n_u_103 : Z.heap.size ≤ u_103 := Nat.le_trans O105.1 B103_0
  have z_u_103 : h0.size ≤ u_103 := Nat.le_trans (Nat.le_trans (Nat.le_refl _) E102.1) B103_0
  refine Go.iconst (z := (0 : Int32)) (pc' := 20) C X103 d25_19 rfl rfl ?_
  have c107 : Exa Z T103.heap b102 "java/lang/String" := (Exa.keep A102 K103)
  have c108 : Fld Z T103.heap b102 "java/lang/String" "value" "[B" .null := (Fld.keep F102_value K103 nin0)
  have c109 : Fld Z T103.heap b102 "java/lang/String" "coder" "B" (.int (0 : Int32)) := (Fld.keep F102_coder K103 nin0)
  have O110 : Ext Z.heap T103.heap := (Ext.keep O105 K103 all0)
  refine Go.callI (y := mN1) (a := b102) (pc' := 23) C X103 rfl (tw hw 162 rfl) (tw hw 163 rfl) (by decide) (rm_sIb l Z a0 hw b102 u_103 T103.heap O110 c107 c108 c109 n_b102) (tw hw 164 rfl) (tw hw 11 rfl) rfl (argsL := [(.ref u_103), (.int (0 : Int32))]) (rest := [(.ref b102)]) (W := 1) rfl rfl pd_19 rfl (Nat.le_of_eq rfl) rfl (by decide) (by decide) (by decide) (by decide) rfl d25_20 rfl ?_
  intro T106 v106 L106 X106 q106
  obtain ⟨rfl, N106q, K106, P106_0, P106_1⟩ := q106
  have N106 := Fr.app N103 N106q
  have K111 : Keep h0 T106.heap [] := ((((Keep.refl h0 []).ext E102).trans K103 all0).trans K106 (allS (Or.inr z_b102) all0))
  have c112 : Exa Z T106.heap b102 "java/lang/String" := (Exa.keep c107 K106)
  have ne113 : u_103 ≠ b102 := (Nat.ne_of_gt (Nat.lt_of_lt_of_le A102.lt (Nat.le_trans (Nat.le_refl _) B103_0)))
  have c114 : AL Z T106.heap u_103 ku_103 .byte (by8 [x1, x2, x3]) := (AL.keep P103_0 K106 (ninS ne113 nin0))
  exact Go.retA C X106 rfl d25_23 rfl rfl rfl ⟨b102, u_103, ku_103, rfl, N106, K111, z_b102, z_u_103, c112, P106_0, P106_1, c114⟩ (by decide) (by decide)
def Q_sub14 (Z : State) (s1 : Addr) (v : Addr) (k : ClassId) (x0 : Int32) (x1 : Int32) (x2 : Int32) (x3 : Int32) (cP : Int32) (fm : Value) (h0 : Heap) (rv : Option Value) (h : Heap) (L : List Loc) : Prop := ∃ r : Addr, ∃ u : Addr, ∃ ku : ClassId, rv = some (.ref r) ∧ Fr Z.heap.size L ∧ Keep h0 h [] ∧ h0.size ≤ r ∧ h0.size ≤ u ∧ Exa Z h r "java/lang/String" ∧ Fld Z h r "java/lang/String" "value" "[B" (.ref u) ∧ Fld Z h r "java/lang/String" "coder" "B" (.int (0 : Int32)) ∧ AL Z h u ku .byte (by8 [x1, x2, x3])
theorem rm_sub14 (l : Launch) (Z : State) (a0 : Array Value) (hw : ∀ d ∈ tables_1, d.before a0 Z = true) (s1 : Addr) (v : Addr) (k : ClassId) (x0 : Int32) (x1 : Int32) (x2 : Int32) (x3 : Int32) (cP : Int32) (fm : Value) (h0 : Heap) (O0 : Ext Z.heap h0) (E0 : Exa Z h0 s1 "java/lang/String") (Fv : Fld Z h0 s1 "java/lang/String" "value" "[B" (.ref v)) (Fc : Fld Z h0 s1 "java/lang/String" "coder" "B" (.int (0 : Int32))) (Bx : AL Z h0 v k .byte (by8 [x0, x1, x2, x3])) (SC : Sta Z Z.heap "java/lang/String" "COMPACT_STRINGS" "Z" (.int cP)) (SF : Sta Z Z.heap "jdk/internal/util/Preconditions" "SIOOBE_FORMATTER" "Ljava/util/function/BiFunction;" fm) (hP : ¬ cP = (0 : Int32)) (hfm : fm.category = 1) :
    Met1 l Z mN12 jdk_42_method_92_code 5 (some (.object "java/lang/String")) ({ frames := 4, cells := 2, slots := 7, locals := 64 } : Room) #[(.ref s1), (.int (1 : Int32)), (.int (4 : Int32))] h0 (Q_sub14 Z s1 v k x0 x1 x2 x3 cP fm h0) := by
  refine Met1.of_body (Ls := #[.val (.ref s1), .val (.int (1 : Int32)), .val (.int (4 : Int32)), .unset, .unset]) pf_22 (fun m => by first | (simp [entryFrame, mkF, argsToLocals, Value.category]; done) | rfl) ?_
  intro p e s m below meth c T0 C X0 e0
  have N0 : Fr Z.heap.size [] := Fr.nil _
  refine Go.aloadN (pc' := 1) C X0 d22_0 rfl rfl rfl ?_
  refine Go.callV (y := mN10) (z := mN10) (a := s1) (pc' := 4) C X0 (tw hw 39 rfl) (tw hw 40 rfl) (notFace_at C.2.1 (tw hw 42 rfl)) (tw hw 42 rfl) (tw hw 41 rfl) E0 (by decide) (rm_len l Z a0 hw s1 v k ([x0, x1, x2, x3]) cP ((4 : Int32)) h0 O0 E0 Fv Fc Bx SC hP rfl) (tw hw 43 rfl) (tw hw 11 rfl) e0 (argsL := []) (rest := []) (W := 0) rfl rfl pd_11 rfl (Nat.le_of_eq rfl) rfl (by decide) (by decide) (by decide) (by decide) d22_1 rfl ?_
  intro T101 v101 L101 X101 q101
  obtain ⟨rfl, rfl, e101⟩ := q101
  have N101 := Fr.app N0 (Fr.nil _)
  refine Go.istoreN (Ls' := #[.val (.ref s1), .val (.int (1 : Int32)), .val (.int (4 : Int32)), .val (.int (4 : Int32)), .unset]) (pc' := 5) C X101 d22_4 rfl rfl ?_
  refine Go.iloadN (pc' := 6) C X101 d22_5 rfl rfl ?_
  refine Go.iloadN (pc' := 7) C X101 d22_6 rfl rfl ?_
  refine Go.iloadN (pc' := 8) C X101 d22_7 rfl rfl ?_
  refine Go.callS (y := mN4) (pc' := 11) C X101 (tw hw 106 rfl) (tw hw 107 rfl) (by decide) (rm_cbe l Z a0 hw ((1 : Int32)) ((4 : Int32)) fm h0 O0 SF (by first | assumption | decide | omega) (by first | assumption | decide | omega) hfm) (tw hw 108 rfl) (tw hw 11 rfl) e101 (argsL := [(.int (1 : Int32)), (.int (4 : Int32)), (.int (4 : Int32))]) (rest := []) (W := 0) rfl rfl pd_12 rfl (Nat.le_of_eq rfl) rfl (by decide) (by decide) (by decide) (by decide) d22_8 rfl ?_
  intro T102 v102 L102 X102 q102
  obtain ⟨rfl, rfl, e102⟩ := q102
  have N102 := Fr.app N101 (Fr.nil _)
  refine Go.iloadN (pc' := 12) C X102 d22_11 rfl rfl ?_
  refine Go.ifYes (pc' := 22) C X102 d22_12 ((if0 _ _).trans (feq (x := (1 : Int32)) (y := (0 : Int32)) (by decide)).2) (by decide) (by decide) ?_
  refine Go.iloadN (pc' := 23) C X102 d22_22 rfl rfl ?_
  refine Go.iloadN (pc' := 24) C X102 d22_23 rfl rfl ?_
  refine Go.isub (pc' := 25) C X102 d22_24 rfl ?_
  rw [show ((4 : Int32) - (1 : Int32)) = (3 : Int32) from by decide]
  refine Go.istore (Ls' := #[.val (.ref s1), .val (.int (1 : Int32)), .val (.int (4 : Int32)), .val (.int (4 : Int32)), .val (.int (3 : Int32))]) (pc' := 27) C X102 d22_25 rfl rfl ?_
  refine Go.aloadN (pc' := 28) C X102 d22_27 rfl rfl rfl ?_
  refine Go.callV (y := mN7) (z := mN7) (a := s1) (pc' := 31) C X102 (tw hw 55 rfl) (tw hw 56 rfl) (notFace_at C.2.1 (tw hw 58 rfl)) (tw hw 58 rfl) (tw hw 57 rfl) E0 (by decide) (rm_isL l Z a0 hw s1 cP h0 O0 Fc SC hP) (tw hw 59 rfl) (tw hw 11 rfl) e102 (argsL := []) (rest := []) (W := 0) rfl rfl pd_13 rfl (Nat.le_of_eq rfl) rfl (by decide) (by decide) (by decide) (by decide) d22_28 rfl ?_
  intro T104 v104 L104 X104 q104
  obtain ⟨rfl, rfl, e104⟩ := q104
  have N104 := Fr.app N102 (Fr.nil _)
  refine Go.ifNo (pc' := 34) C X104 d22_31 ((if0 _ _).trans (feq (x := (1 : Int32)) (y := (0 : Int32)) (by decide)).1) rfl ?_
  refine Go.aloadN (pc' := 35) C X104 d22_34 rfl rfl rfl ?_
  refine Go.getF (pc' := 38) (host := "") C X104 (Or.inl (tw hw 28 rfl)) Via.refl e104 Fv d22_35 rfl ?_
  intro T106 X106 e106
  refine Go.iloadN (pc' := 39) C X106 d22_38 rfl rfl ?_
  refine Go.iload (pc' := 41) C X106 d22_39 rfl rfl ?_
  refine Go.callS (y := mN16) (pc' := 44) C X106 (tw hw 114 rfl) (tw hw 115 rfl) (by decide) (rm_nst14 l Z a0 hw v k x0 x1 x2 x3 h0 O0 Bx) (tw hw 116 rfl) (tw hw 62 rfl) e106 (argsL := [(.ref v), (.int (1 : Int32)), (.int (3 : Int32))]) (rest := []) (W := 0) rfl rfl pd_14 rfl (Nat.le_of_eq rfl) rfl (by decide) (by decide) (by decide) (by decide) d22_41 rfl ?_
  intro T107 v107 L107 X107 q107
  obtain ⟨r_107, u_107, ku_107, rfl, N107q, K107, B107_0, B107_1, P107_0, P107_1, P107_2, P107_3⟩ := q107
  have N107 := Fr.app N104 N107q
  have n_r_107 : Z.heap.size ≤ r_107 := Nat.le_trans O0.1 B107_0
  have z_r_107 : h0.size ≤ r_107 := Nat.le_trans (Nat.le_refl _) B107_0
  have n_u_107 : Z.heap.size ≤ u_107 := Nat.le_trans O0.1 B107_1
  have z_u_107 : h0.size ≤ u_107 := Nat.le_trans (Nat.le_refl _) B107_1
  refine Go.goto (pc' := 57) C X107 d22_44 (by decide) (by decide) ?_
  have K108 : Keep h0 T107.heap [] := ((Keep.refl h0 []).trans K107 all0)
  exact Go.retA C X107 rfl d22_57 rfl rfl rfl ⟨r_107, u_107, ku_107, rfl, N107, K108, z_r_107, z_u_107, P107_0, P107_1, P107_2, P107_3⟩ (by decide) (by decide)
def Q_su114 (Z : State) (s1 : Addr) (v : Addr) (k : ClassId) (x0 : Int32) (x1 : Int32) (x2 : Int32) (x3 : Int32) (cP : Int32) (fm : Value) (h0 : Heap) (rv : Option Value) (h : Heap) (L : List Loc) : Prop := ∃ r : Addr, ∃ u : Addr, ∃ ku : ClassId, rv = some (.ref r) ∧ Fr Z.heap.size L ∧ Keep h0 h [] ∧ h0.size ≤ r ∧ h0.size ≤ u ∧ Exa Z h r "java/lang/String" ∧ Fld Z h r "java/lang/String" "value" "[B" (.ref u) ∧ Fld Z h r "java/lang/String" "coder" "B" (.int (0 : Int32)) ∧ AL Z h u ku .byte (by8 [x1, x2, x3])
theorem rm_su114 (l : Launch) (Z : State) (a0 : Array Value) (hw : ∀ d ∈ tables_1, d.before a0 Z = true) (s1 : Addr) (v : Addr) (k : ClassId) (x0 : Int32) (x1 : Int32) (x2 : Int32) (x3 : Int32) (cP : Int32) (fm : Value) (h0 : Heap) (O0 : Ext Z.heap h0) (E0 : Exa Z h0 s1 "java/lang/String") (Fv : Fld Z h0 s1 "java/lang/String" "value" "[B" (.ref v)) (Fc : Fld Z h0 s1 "java/lang/String" "coder" "B" (.int (0 : Int32))) (Bx : AL Z h0 v k .byte (by8 [x0, x1, x2, x3])) (SC : Sta Z Z.heap "java/lang/String" "COMPACT_STRINGS" "Z" (.int cP)) (SF : Sta Z Z.heap "jdk/internal/util/Preconditions" "SIOOBE_FORMATTER" "Ljava/util/function/BiFunction;" fm) (hP : ¬ cP = (0 : Int32)) (hfm : fm.category = 1) :
    Met1 l Z mN11 jdk_42_method_91_code 2 (some (.object "java/lang/String")) ({ frames := 5, cells := 2, slots := 7, locals := 80 } : Room) #[(.ref s1), (.int (1 : Int32))] h0 (Q_su114 Z s1 v k x0 x1 x2 x3 cP fm h0) := by
  refine Met1.of_body (Ls := #[.val (.ref s1), .val (.int (1 : Int32))]) pf_21 (fun m => by first | (simp [entryFrame, mkF, argsToLocals, Value.category]; done) | rfl) ?_
  intro p e s m below meth c T0 C X0 e0
  have N0 : Fr Z.heap.size [] := Fr.nil _
  refine Go.aloadN (pc' := 1) C X0 d21_0 rfl rfl rfl ?_
  refine Go.iloadN (pc' := 2) C X0 d21_1 rfl rfl ?_
  refine Go.aloadN (pc' := 3) C X0 d21_2 rfl rfl rfl ?_
  refine Go.callV (y := mN10) (z := mN10) (a := s1) (pc' := 6) C X0 (tw hw 39 rfl) (tw hw 40 rfl) (notFace_at C.2.1 (tw hw 42 rfl)) (tw hw 42 rfl) (tw hw 41 rfl) E0 (by decide) (rm_len l Z a0 hw s1 v k ([x0, x1, x2, x3]) cP ((4 : Int32)) h0 O0 E0 Fv Fc Bx SC hP rfl) (tw hw 43 rfl) (tw hw 11 rfl) e0 (argsL := []) (rest := [(.int (1 : Int32)), (.ref s1)]) (W := 2) rfl rfl pd_11 rfl (Nat.le_of_eq rfl) rfl (by decide) (by decide) (by decide) (by decide) d21_3 rfl ?_
  intro T101 v101 L101 X101 q101
  obtain ⟨rfl, rfl, e101⟩ := q101
  have N101 := Fr.app N0 (Fr.nil _)
  refine Go.callV (y := mN12) (z := mN12) (a := s1) (pc' := 9) C X101 (tw hw 101 rfl) (tw hw 102 rfl) (notFace_at C.2.1 (tw hw 104 rfl)) (tw hw 104 rfl) (tw hw 103 rfl) E0 (by decide) (rm_sub14 l Z a0 hw s1 v k x0 x1 x2 x3 cP fm h0 O0 E0 Fv Fc Bx SC SF hP hfm) (tw hw 105 rfl) (tw hw 11 rfl) e101 (argsL := [(.int (1 : Int32)), (.int (4 : Int32))]) (rest := []) (W := 0) rfl rfl pd_15 rfl (Nat.le_of_eq rfl) rfl (by decide) (by decide) (by decide) (by decide) d21_6 rfl ?_
  intro T102 v102 L102 X102 q102
  obtain ⟨r_102, u_102, ku_102, rfl, N102q, K102, B102_0, B102_1, P102_0, P102_1, P102_2, P102_3⟩ := q102
  have N102 := Fr.app N101 N102q
  have n_r_102 : Z.heap.size ≤ r_102 := Nat.le_trans O0.1 B102_0
  have z_r_102 : h0.size ≤ r_102 := Nat.le_trans (Nat.le_refl _) B102_0
  have n_u_102 : Z.heap.size ≤ u_102 := Nat.le_trans O0.1 B102_1
  have z_u_102 : h0.size ≤ u_102 := Nat.le_trans (Nat.le_refl _) B102_1
  have K103 : Keep h0 T102.heap [] := ((Keep.refl h0 []).trans K102 all0)
  exact Go.retA C X102 rfl d21_9 rfl rfl rfl ⟨r_102, u_102, ku_102, rfl, N102, K103, z_r_102, z_u_102, P102_0, P102_1, P102_2, P102_3⟩ (by decide) (by decide)
def Q_crb24 (Z : State) (v : Addr) (k : ClassId) (x0 : Int32) (x1 : Int32) (x2 : Int32) (x3 : Int32) (h0 : Heap) (rv : Option Value) (h : Heap) (L : List Loc) : Prop := ∃ u : Addr, ∃ ku : ClassId, rv = some (.ref u) ∧ Fr Z.heap.size L ∧ Keep h0 h [] ∧ h0.size ≤ u ∧ AL Z h u ku .byte (by8 [x2, x3])
theorem rm_crb24 (l : Launch) (Z : State) (a0 : Array Value) (hw : ∀ d ∈ tables_1, d.before a0 Z = true) (v : Addr) (k : ClassId) (x0 : Int32) (x1 : Int32) (x2 : Int32) (x3 : Int32) (h0 : Heap) (O0 : Ext Z.heap h0) (Bx : AL Z h0 v k .byte (by8 [x0, x1, x2, x3])) :
    Met1 l Z mN22 jdk_65_method_133_code 5 (some (.array .byte)) ({ frames := 1, cells := 1, slots := 2, locals := 18 } : Room) #[(.ref v), (.int (2 : Int32)), (.int (4 : Int32))] h0 (Q_crb24 Z v k x0 x1 x2 x3 h0) := by
  refine Met1.of_body (Ls := #[.val (.ref v), .val (.int (2 : Int32)), .val (.int (4 : Int32)), .unset, .unset]) pf_33 (fun m => by first | (simp [entryFrame, mkF, argsToLocals, Value.category]; done) | rfl) ?_
  intro p e s m below meth c T0 C X0 e0
  have N0 : Fr Z.heap.size [] := Fr.nil _
  refine Go.iloadN (pc' := 1) C X0 d33_0 rfl rfl ?_
  refine Go.iloadN (pc' := 2) C X0 d33_1 rfl rfl ?_
  refine Go.callS (y := mN20) (pc' := 5) C X0 (tw hw 154 rfl) (tw hw 155 rfl) (by decide) (rm_ckl l Z a0 hw ((2 : Int32)) ((4 : Int32)) h0 O0 (by first | assumption | decide | omega)) (tw hw 156 rfl) (tw hw 149 rfl) e0 (argsL := [(.int (2 : Int32)), (.int (4 : Int32))]) (rest := []) (W := 0) rfl rfl pd_16 rfl (Nat.le_of_eq rfl) rfl (by decide) (by decide) (by decide) (by decide) d33_2 rfl ?_
  intro T101 v101 L101 X101 q101
  obtain ⟨rfl, rfl, e101⟩ := q101
  have N101 := Fr.app N0 (Fr.nil _)
  refine Go.iloadN (pc' := 6) C X101 d33_5 rfl rfl ?_
  refine Go.iloadN (pc' := 7) C X101 d33_6 rfl rfl ?_
  refine Go.isub (pc' := 8) C X101 d33_7 rfl ?_
  rw [show ((4 : Int32) - (2 : Int32)) = (2 : Int32) from by decide]
  refine Go.istoreN (Ls' := #[.val (.ref v), .val (.int (2 : Int32)), .val (.int (4 : Int32)), .val (.int (2 : Int32)), .unset]) (pc' := 9) C X101 d33_8 rfl rfl ?_
  refine Go.iloadN (pc' := 10) C X101 d33_9 rfl rfl ?_
  refine Go.newP (aty := .byte) (cap := 2) (vs := [(.int (0 : Int32)), (.int (0 : Int32))]) (ad := "[B") (pc' := 12) C X101 (by decide) (tw hw 23 rfl) e101 (by decide) (by decide) (by decide) (by decide) (by decide) rfl d33_10 rfl ?_
  intro T102 h102 b102 k102 X102 e102 g102 E102 A102 Ea102
  have n_b102 : Z.heap.size ≤ b102 := Nat.le_trans O0.1 (Nat.le_of_eq g102.symm)
  have z_b102 : h0.size ≤ b102 := Nat.le_trans (Nat.le_refl _) (Nat.le_of_eq g102.symm)
  have A102 : AL Z h102 b102 k102 .byte [(.int (0 : Int32)), (.int (0 : Int32))] := A102
  refine Go.astore (Ls' := #[.val (.ref v), .val (.int (2 : Int32)), .val (.int (4 : Int32)), .val (.int (2 : Int32)), .val (.ref b102)]) (pc' := 14) C X102 d33_12 rfl rfl rfl ?_
  refine Go.aloadN (pc' := 15) C X102 d33_14 rfl rfl rfl ?_
  refine Go.iloadN (pc' := 16) C X102 d33_15 rfl rfl ?_
  refine Go.aload (pc' := 18) C X102 d33_16 rfl rfl rfl ?_
  refine Go.iconst (z := (0 : Int32)) (pc' := 19) C X102 d33_18 rfl rfl ?_
  refine Go.aloadN (pc' := 20) C X102 d33_19 rfl rfl rfl ?_
  have c103 : AL Z h102 v k .byte (by8 [x0, x1, x2, x3]) := (AL.ext E102 Bx)
  refine Go.alen (z := (4 : Int32)) (pc' := 21) C X102 e102 c103 (by rw [by8_len]; rfl) d33_20 rfl ?_
  refine Go.iloadN (pc' := 22) C X102 d33_21 rfl rfl ?_
  refine Go.isub (pc' := 23) C X102 d33_22 rfl ?_
  rw [show ((4 : Int32) - (2 : Int32)) = (2 : Int32) from by decide]
  refine Go.iloadN (pc' := 24) C X102 d33_23 rfl rfl ?_
  have O105 : Ext Z.heap h102 := (Ext.trans O0 E102)
  refine Go.callS (y := mN0) (pc' := 27) C X102 (tw hw 157 rfl) (tw hw 68 rfl) (by decide) (rm_mn l Z a0 hw ((2 : Int32)) h102 O105 ) (tw hw 70 rfl) (tw hw 69 rfl) e102 (argsL := [(.int (2 : Int32)), (.int (2 : Int32))]) (rest := [(.int (0 : Int32)), (.ref b102), (.int (2 : Int32)), (.ref v)]) (W := 4) rfl rfl pd_17 rfl (Nat.le_of_eq rfl) rfl (by decide) (by decide) (by decide) (by decide) d33_24 rfl ?_
  intro T104 v104 L104 X104 q104
  obtain ⟨rfl, rfl, e104⟩ := q104
  have N104 := Fr.app N101 (Fr.nil _)
  refine Go.arrcopy (i := 2) (j := 0) (n := 2) (vd' := (by8 [x2, x3])) (W := 0) (n0 := Z.heap.size) (pc' := 30) C X104 (tw hw 158 rfl) (tw hw 161 rfl) (tw hw 159 rfl) (tw hw 160 rfl) e104 c103 A102 (fit8 _) (fit0 2) (by rw [by8_len]; simp) (by simp) (Or.inl ⟨rfl, rfl⟩) (by decide) (by decide) (by decide) (by decide) (by decide) (by decide) (by rw [by8_len]; simp) (by simp) rfl N104 n_b102 rfl (by decide) (Nat.le_of_eq rfl) (by decide) d33_27 rfl ?_
  intro T106 h106 L106 X106 e106 N106 K106 A106
  refine Go.aload (pc' := 32) C X106 d33_30 rfl rfl rfl ?_
  have K107 : Keep h0 h106 [] := (((Keep.refl h0 []).ext E102).trans K106 (allS (Or.inr z_b102) all0))
  exact Go.retA C X106 rfl d33_32 rfl rfl rfl (by rw [e106]; exact ⟨b102, k102, rfl, N106, K107, z_b102, A106⟩) (by decide) (by decide)
def Q_cra24 (Z : State) (v : Addr) (k : ClassId) (x0 : Int32) (x1 : Int32) (x2 : Int32) (x3 : Int32) (h0 : Heap) (rv : Option Value) (h : Heap) (L : List Loc) : Prop := ∃ u : Addr, ∃ ku : ClassId, rv = some (.ref u) ∧ Fr Z.heap.size L ∧ Keep h0 h [] ∧ h0.size ≤ u ∧ AL Z h u ku .byte (by8 [x2, x3])
theorem rm_cra24 (l : Launch) (Z : State) (a0 : Array Value) (hw : ∀ d ∈ tables_1, d.before a0 Z = true) (v : Addr) (k : ClassId) (x0 : Int32) (x1 : Int32) (x2 : Int32) (x3 : Int32) (h0 : Heap) (O0 : Ext Z.heap h0) (Bx : AL Z h0 v k .byte (by8 [x0, x1, x2, x3])) :
    Met1 l Z mN21 jdk_65_method_132_code 3 (some (.array .byte)) ({ frames := 2, cells := 1, slots := 2, locals := 34 } : Room) #[(.ref v), (.int (2 : Int32)), (.int (4 : Int32))] h0 (Q_cra24 Z v k x0 x1 x2 x3 h0) := by
  refine Met1.of_body (Ls := #[.val (.ref v), .val (.int (2 : Int32)), .val (.int (4 : Int32))]) pf_32 (fun m => by first | (simp [entryFrame, mkF, argsToLocals, Value.category]; done) | rfl) ?_
  intro p e s m below meth c T0 C X0 e0
  have N0 : Fr Z.heap.size [] := Fr.nil _
  refine Go.iloadN (pc' := 1) C X0 d32_0 rfl rfl ?_
  refine Go.ifYes (pc' := 10) C X0 d32_1 ((if0 _ _).trans (feq (x := (2 : Int32)) (y := (0 : Int32)) (by decide)).2) (by decide) (by decide) ?_
  refine Go.aloadN (pc' := 11) C X0 d32_10 rfl rfl rfl ?_
  refine Go.iloadN (pc' := 12) C X0 d32_11 rfl rfl ?_
  refine Go.iloadN (pc' := 13) C X0 d32_12 rfl rfl ?_
  refine Go.callS (y := mN22) (pc' := 16) C X0 (tw hw 151 rfl) (tw hw 152 rfl) (by decide) (rm_crb24 l Z a0 hw v k x0 x1 x2 x3 h0 O0 Bx) (tw hw 153 rfl) (tw hw 149 rfl) e0 (argsL := [(.ref v), (.int (2 : Int32)), (.int (4 : Int32))]) (rest := []) (W := 0) rfl rfl pd_18 rfl (Nat.le_of_eq rfl) rfl (by decide) (by decide) (by decide) (by decide) d32_13 rfl ?_
  intro T102 v102 L102 X102 q102
  obtain ⟨u_102, ku_102, rfl, N102q, K102, B102_0, P102_0⟩ := q102
  have N102 := Fr.app N0 N102q
  have n_u_102 : Z.heap.size ≤ u_102 := Nat.le_trans O0.1 B102_0
  have z_u_102 : h0.size ≤ u_102 := Nat.le_trans (Nat.le_refl _) B102_0
  have K103 : Keep h0 T102.heap [] := ((Keep.refl h0 []).trans K102 all0)
  exact Go.retA C X102 rfl d32_16 rfl rfl rfl ⟨u_102, ku_102, rfl, N102, K103, z_u_102, P102_0⟩ (by decide) (by decide)
def Q_nst24 (Z : State) (v : Addr) (k : ClassId) (x0 : Int32) (x1 : Int32) (x2 : Int32) (x3 : Int32) (h0 : Heap) (rv : Option Value) (h : Heap) (L : List Loc) : Prop := ∃ r : Addr, ∃ u : Addr, ∃ ku : ClassId, rv = some (.ref r) ∧ Fr Z.heap.size L ∧ Keep h0 h [] ∧ h0.size ≤ r ∧ h0.size ≤ u ∧ Exa Z h r "java/lang/String" ∧ Fld Z h r "java/lang/String" "value" "[B" (.ref u) ∧ Fld Z h r "java/lang/String" "coder" "B" (.int (0 : Int32)) ∧ AL Z h u ku .byte (by8 [x2, x3])
theorem rm_nst24 (l : Launch) (Z : State) (a0 : Array Value) (hw : ∀ d ∈ tables_1, d.before a0 Z = true) (v : Addr) (k : ClassId) (x0 : Int32) (x1 : Int32) (x2 : Int32) (x3 : Int32) (h0 : Heap) (O0 : Ext Z.heap h0) (Bx : AL Z h0 v k .byte (by8 [x0, x1, x2, x3])) :
    Met1 l Z mN16 jdk_43_method_47_code 3 (some (.object "java/lang/String")) ({ frames := 3, cells := 2, slots := 6, locals := 50 } : Room) #[(.ref v), (.int (2 : Int32)), (.int (2 : Int32))] h0 (Q_nst24 Z v k x0 x1 x2 x3 h0) := by
  refine Met1.of_body (Ls := #[.val (.ref v), .val (.int (2 : Int32)), .val (.int (2 : Int32))]) pf_25 (fun m => by first | (simp [entryFrame, mkF, argsToLocals, Value.category]; done) | rfl) ?_
  intro p e s m below meth c T0 C X0 e0
  have N0 : Fr Z.heap.size [] := Fr.nil _
  refine Go.iloadN (pc' := 1) C X0 d25_0 rfl rfl ?_
  refine Go.ifYes (pc' := 7) C X0 d25_1 ((if0 _ _).trans (feq (x := (2 : Int32)) (y := (0 : Int32)) (by decide)).2) (by decide) (by decide) ?_
  refine Go.newO (pc' := 10) C X0 (tw hw 146 rfl) (tw hw 10 rfl) (tw hw 11 rfl) e0 (by decide) (by decide) d25_7 rfl ?_
  intro T102 h102 b102 X102 e102 g102 E102 A102 D102
  have n_b102 : Z.heap.size ≤ b102 := Nat.le_trans O0.1 (Nat.le_of_eq g102.symm)
  have z_b102 : h0.size ≤ b102 := Nat.le_trans (Nat.le_refl _) (Nat.le_of_eq g102.symm)
  have F102_value : Fld Z h102 b102 "java/lang/String" "value" "[B" .null := D102 (Or.inr (tw hw 24 rfl)) (ty := (.array .byte)) (by decide)
  have F102_coder : Fld Z h102 b102 "java/lang/String" "coder" "B" (.int (0 : Int32)) := D102 (Or.inr (tw hw 25 rfl)) (ty := .byte) (by decide)
  refine Go.dup (pc' := 11) C X102 d25_10 rfl rfl ?_
  refine Go.aloadN (pc' := 12) C X102 d25_11 rfl rfl rfl ?_
  refine Go.iloadN (pc' := 13) C X102 d25_12 rfl rfl ?_
  refine Go.iloadN (pc' := 14) C X102 d25_13 rfl rfl ?_
  refine Go.iloadN (pc' := 15) C X102 d25_14 rfl rfl ?_
  refine Go.iadd (pc' := 16) C X102 d25_15 rfl ?_
  rw [show ((2 : Int32) + (2 : Int32)) = (4 : Int32) from by decide]
  have c104 : AL Z h102 v k .byte (by8 [x0, x1, x2, x3]) := (AL.ext E102 Bx)
  have O105 : Ext Z.heap h102 := (Ext.trans O0 E102)
  refine Go.callS (y := mN21) (pc' := 19) C X102 (tw hw 147 rfl) (tw hw 148 rfl) (by decide) (rm_cra24 l Z a0 hw v k x0 x1 x2 x3 h102 O105 c104) (tw hw 150 rfl) (tw hw 149 rfl) e102 (argsL := [(.ref v), (.int (2 : Int32)), (.int (4 : Int32))]) (rest := [(.ref b102), (.ref b102)]) (W := 2) rfl rfl pd_18 rfl (Nat.le_of_eq rfl) rfl (by decide) (by decide) (by decide) (by decide) d25_16 rfl ?_
  intro T103 v103 L103 X103 q103
  obtain ⟨u_103, ku_103, rfl, N103q, K103, B103_0, P103_0⟩ := q103
  have N103 := Fr.app N0 N103q
  have n_u_103 : Z.heap.size ≤ u_103 := Nat.le_trans O105.1 B103_0
  have z_u_103 : h0.size ≤ u_103 := Nat.le_trans (Nat.le_trans (Nat.le_refl _) E102.1) B103_0
  refine Go.iconst (z := (0 : Int32)) (pc' := 20) C X103 d25_19 rfl rfl ?_
  have c107 : Exa Z T103.heap b102 "java/lang/String" := (Exa.keep A102 K103)
  have c108 : Fld Z T103.heap b102 "java/lang/String" "value" "[B" .null := (Fld.keep F102_value K103 nin0)
  have c109 : Fld Z T103.heap b102 "java/lang/String" "coder" "B" (.int (0 : Int32)) := (Fld.keep F102_coder K103 nin0)
  have O110 : Ext Z.heap T103.heap := (Ext.keep O105 K103 all0)
  refine Go.callI (y := mN1) (a := b102) (pc' := 23) C X103 rfl (tw hw 162 rfl) (tw hw 163 rfl) (by decide) (rm_sIb l Z a0 hw b102 u_103 T103.heap O110 c107 c108 c109 n_b102) (tw hw 164 rfl) (tw hw 11 rfl) rfl (argsL := [(.ref u_103), (.int (0 : Int32))]) (rest := [(.ref b102)]) (W := 1) rfl rfl pd_19 rfl (Nat.le_of_eq rfl) rfl (by decide) (by decide) (by decide) (by decide) rfl d25_20 rfl ?_
  intro T106 v106 L106 X106 q106
  obtain ⟨rfl, N106q, K106, P106_0, P106_1⟩ := q106
  have N106 := Fr.app N103 N106q
  have K111 : Keep h0 T106.heap [] := ((((Keep.refl h0 []).ext E102).trans K103 all0).trans K106 (allS (Or.inr z_b102) all0))
  have c112 : Exa Z T106.heap b102 "java/lang/String" := (Exa.keep c107 K106)
  have ne113 : u_103 ≠ b102 := (Nat.ne_of_gt (Nat.lt_of_lt_of_le A102.lt (Nat.le_trans (Nat.le_refl _) B103_0)))
  have c114 : AL Z T106.heap u_103 ku_103 .byte (by8 [x2, x3]) := (AL.keep P103_0 K106 (ninS ne113 nin0))
  exact Go.retA C X106 rfl d25_23 rfl rfl rfl ⟨b102, u_103, ku_103, rfl, N106, K111, z_b102, z_u_103, c112, P106_0, P106_1, c114⟩ (by decide) (by decide)
def Q_sub24 (Z : State) (s1 : Addr) (v : Addr) (k : ClassId) (x0 : Int32) (x1 : Int32) (x2 : Int32) (x3 : Int32) (cP : Int32) (fm : Value) (h0 : Heap) (rv : Option Value) (h : Heap) (L : List Loc) : Prop := ∃ r : Addr, ∃ u : Addr, ∃ ku : ClassId, rv = some (.ref r) ∧ Fr Z.heap.size L ∧ Keep h0 h [] ∧ h0.size ≤ r ∧ h0.size ≤ u ∧ Exa Z h r "java/lang/String" ∧ Fld Z h r "java/lang/String" "value" "[B" (.ref u) ∧ Fld Z h r "java/lang/String" "coder" "B" (.int (0 : Int32)) ∧ AL Z h u ku .byte (by8 [x2, x3])
theorem rm_sub24 (l : Launch) (Z : State) (a0 : Array Value) (hw : ∀ d ∈ tables_1, d.before a0 Z = true) (s1 : Addr) (v : Addr) (k : ClassId) (x0 : Int32) (x1 : Int32) (x2 : Int32) (x3 : Int32) (cP : Int32) (fm : Value) (h0 : Heap) (O0 : Ext Z.heap h0) (E0 : Exa Z h0 s1 "java/lang/String") (Fv : Fld Z h0 s1 "java/lang/String" "value" "[B" (.ref v)) (Fc : Fld Z h0 s1 "java/lang/String" "coder" "B" (.int (0 : Int32))) (Bx : AL Z h0 v k .byte (by8 [x0, x1, x2, x3])) (SC : Sta Z Z.heap "java/lang/String" "COMPACT_STRINGS" "Z" (.int cP)) (SF : Sta Z Z.heap "jdk/internal/util/Preconditions" "SIOOBE_FORMATTER" "Ljava/util/function/BiFunction;" fm) (hP : ¬ cP = (0 : Int32)) (hfm : fm.category = 1) :
    Met1 l Z mN12 jdk_42_method_92_code 5 (some (.object "java/lang/String")) ({ frames := 4, cells := 2, slots := 6, locals := 64 } : Room) #[(.ref s1), (.int (2 : Int32)), (.int (4 : Int32))] h0 (Q_sub24 Z s1 v k x0 x1 x2 x3 cP fm h0) := by
  refine Met1.of_body (Ls := #[.val (.ref s1), .val (.int (2 : Int32)), .val (.int (4 : Int32)), .unset, .unset]) pf_22 (fun m => by first | (simp [entryFrame, mkF, argsToLocals, Value.category]; done) | rfl) ?_
  intro p e s m below meth c T0 C X0 e0
  have N0 : Fr Z.heap.size [] := Fr.nil _
  refine Go.aloadN (pc' := 1) C X0 d22_0 rfl rfl rfl ?_
  refine Go.callV (y := mN10) (z := mN10) (a := s1) (pc' := 4) C X0 (tw hw 39 rfl) (tw hw 40 rfl) (notFace_at C.2.1 (tw hw 42 rfl)) (tw hw 42 rfl) (tw hw 41 rfl) E0 (by decide) (rm_len l Z a0 hw s1 v k ([x0, x1, x2, x3]) cP ((4 : Int32)) h0 O0 E0 Fv Fc Bx SC hP rfl) (tw hw 43 rfl) (tw hw 11 rfl) e0 (argsL := []) (rest := []) (W := 0) rfl rfl pd_11 rfl (Nat.le_of_eq rfl) rfl (by decide) (by decide) (by decide) (by decide) d22_1 rfl ?_
  intro T101 v101 L101 X101 q101
  obtain ⟨rfl, rfl, e101⟩ := q101
  have N101 := Fr.app N0 (Fr.nil _)
  refine Go.istoreN (Ls' := #[.val (.ref s1), .val (.int (2 : Int32)), .val (.int (4 : Int32)), .val (.int (4 : Int32)), .unset]) (pc' := 5) C X101 d22_4 rfl rfl ?_
  refine Go.iloadN (pc' := 6) C X101 d22_5 rfl rfl ?_
  refine Go.iloadN (pc' := 7) C X101 d22_6 rfl rfl ?_
  refine Go.iloadN (pc' := 8) C X101 d22_7 rfl rfl ?_
  refine Go.callS (y := mN4) (pc' := 11) C X101 (tw hw 106 rfl) (tw hw 107 rfl) (by decide) (rm_cbe l Z a0 hw ((2 : Int32)) ((4 : Int32)) fm h0 O0 SF (by first | assumption | decide | omega) (by first | assumption | decide | omega) hfm) (tw hw 108 rfl) (tw hw 11 rfl) e101 (argsL := [(.int (2 : Int32)), (.int (4 : Int32)), (.int (4 : Int32))]) (rest := []) (W := 0) rfl rfl pd_12 rfl (Nat.le_of_eq rfl) rfl (by decide) (by decide) (by decide) (by decide) d22_8 rfl ?_
  intro T102 v102 L102 X102 q102
  obtain ⟨rfl, rfl, e102⟩ := q102
  have N102 := Fr.app N101 (Fr.nil _)
  refine Go.iloadN (pc' := 12) C X102 d22_11 rfl rfl ?_
  refine Go.ifYes (pc' := 22) C X102 d22_12 ((if0 _ _).trans (feq (x := (2 : Int32)) (y := (0 : Int32)) (by decide)).2) (by decide) (by decide) ?_
  refine Go.iloadN (pc' := 23) C X102 d22_22 rfl rfl ?_
  refine Go.iloadN (pc' := 24) C X102 d22_23 rfl rfl ?_
  refine Go.isub (pc' := 25) C X102 d22_24 rfl ?_
  rw [show ((4 : Int32) - (2 : Int32)) = (2 : Int32) from by decide]
  refine Go.istore (Ls' := #[.val (.ref s1), .val (.int (2 : Int32)), .val (.int (4 : Int32)), .val (.int (4 : Int32)), .val (.int (2 : Int32))]) (pc' := 27) C X102 d22_25 rfl rfl ?_
  refine Go.aloadN (pc' := 28) C X102 d22_27 rfl rfl rfl ?_
  refine Go.callV (y := mN7) (z := mN7) (a := s1) (pc' := 31) C X102 (tw hw 55 rfl) (tw hw 56 rfl) (notFace_at C.2.1 (tw hw 58 rfl)) (tw hw 58 rfl) (tw hw 57 rfl) E0 (by decide) (rm_isL l Z a0 hw s1 cP h0 O0 Fc SC hP) (tw hw 59 rfl) (tw hw 11 rfl) e102 (argsL := []) (rest := []) (W := 0) rfl rfl pd_13 rfl (Nat.le_of_eq rfl) rfl (by decide) (by decide) (by decide) (by decide) d22_28 rfl ?_
  intro T104 v104 L104 X104 q104
  obtain ⟨rfl, rfl, e104⟩ := q104
  have N104 := Fr.app N102 (Fr.nil _)
  refine Go.ifNo (pc' := 34) C X104 d22_31 ((if0 _ _).trans (feq (x := (1 : Int32)) (y := (0 : Int32)) (by decide)).1) rfl ?_
  refine Go.aloadN (pc' := 35) C X104 d22_34 rfl rfl rfl ?_
  refine Go.getF (pc' := 38) (host := "") C X104 (Or.inl (tw hw 28 rfl)) Via.refl e104 Fv d22_35 rfl ?_
  intro T106 X106 e106
  refine Go.iloadN (pc' := 39) C X106 d22_38 rfl rfl ?_
  refine Go.iload (pc' := 41) C X106 d22_39 rfl rfl ?_
  refine Go.callS (y := mN16) (pc' := 44) C X106 (tw hw 114 rfl) (tw hw 115 rfl) (by decide) (rm_nst24 l Z a0 hw v k x0 x1 x2 x3 h0 O0 Bx) (tw hw 116 rfl) (tw hw 62 rfl) e106 (argsL := [(.ref v), (.int (2 : Int32)), (.int (2 : Int32))]) (rest := []) (W := 0) rfl rfl pd_14 rfl (Nat.le_of_eq rfl) rfl (by decide) (by decide) (by decide) (by decide) d22_41 rfl ?_
  intro T107 v107 L107 X107 q107
  obtain ⟨r_107, u_107, ku_107, rfl, N107q, K107, B107_0, B107_1, P107_0, P107_1, P107_2, P107_3⟩ := q107
  have N107 := Fr.app N104 N107q
  have n_r_107 : Z.heap.size ≤ r_107 := Nat.le_trans O0.1 B107_0
  have z_r_107 : h0.size ≤ r_107 := Nat.le_trans (Nat.le_refl _) B107_0
  have n_u_107 : Z.heap.size ≤ u_107 := Nat.le_trans O0.1 B107_1
  have z_u_107 : h0.size ≤ u_107 := Nat.le_trans (Nat.le_refl _) B107_1
  refine Go.goto (pc' := 57) C X107 d22_44 (by decide) (by decide) ?_
  have K108 : Keep h0 T107.heap [] := ((Keep.refl h0 []).trans K107 all0)
  exact Go.retA C X107 rfl d22_57 rfl rfl rfl ⟨r_107, u_107, ku_107, rfl, N107, K108, z_r_107, z_u_107, P107_0, P107_1, P107_2, P107_3⟩ (by decide) (by decide)
def Q_su124 (Z : State) (s1 : Addr) (v : Addr) (k : ClassId) (x0 : Int32) (x1 : Int32) (x2 : Int32) (x3 : Int32) (cP : Int32) (fm : Value) (h0 : Heap) (rv : Option Value) (h : Heap) (L : List Loc) : Prop := ∃ r : Addr, ∃ u : Addr, ∃ ku : ClassId, rv = some (.ref r) ∧ Fr Z.heap.size L ∧ Keep h0 h [] ∧ h0.size ≤ r ∧ h0.size ≤ u ∧ Exa Z h r "java/lang/String" ∧ Fld Z h r "java/lang/String" "value" "[B" (.ref u) ∧ Fld Z h r "java/lang/String" "coder" "B" (.int (0 : Int32)) ∧ AL Z h u ku .byte (by8 [x2, x3])
theorem rm_su124 (l : Launch) (Z : State) (a0 : Array Value) (hw : ∀ d ∈ tables_1, d.before a0 Z = true) (s1 : Addr) (v : Addr) (k : ClassId) (x0 : Int32) (x1 : Int32) (x2 : Int32) (x3 : Int32) (cP : Int32) (fm : Value) (h0 : Heap) (O0 : Ext Z.heap h0) (E0 : Exa Z h0 s1 "java/lang/String") (Fv : Fld Z h0 s1 "java/lang/String" "value" "[B" (.ref v)) (Fc : Fld Z h0 s1 "java/lang/String" "coder" "B" (.int (0 : Int32))) (Bx : AL Z h0 v k .byte (by8 [x0, x1, x2, x3])) (SC : Sta Z Z.heap "java/lang/String" "COMPACT_STRINGS" "Z" (.int cP)) (SF : Sta Z Z.heap "jdk/internal/util/Preconditions" "SIOOBE_FORMATTER" "Ljava/util/function/BiFunction;" fm) (hP : ¬ cP = (0 : Int32)) (hfm : fm.category = 1) :
    Met1 l Z mN11 jdk_42_method_91_code 2 (some (.object "java/lang/String")) ({ frames := 5, cells := 2, slots := 6, locals := 80 } : Room) #[(.ref s1), (.int (2 : Int32))] h0 (Q_su124 Z s1 v k x0 x1 x2 x3 cP fm h0) := by
  refine Met1.of_body (Ls := #[.val (.ref s1), .val (.int (2 : Int32))]) pf_21 (fun m => by first | (simp [entryFrame, mkF, argsToLocals, Value.category]; done) | rfl) ?_
  intro p e s m below meth c T0 C X0 e0
  have N0 : Fr Z.heap.size [] := Fr.nil _
  refine Go.aloadN (pc' := 1) C X0 d21_0 rfl rfl rfl ?_
  refine Go.iloadN (pc' := 2) C X0 d21_1 rfl rfl ?_
  refine Go.aloadN (pc' := 3) C X0 d21_2 rfl rfl rfl ?_
  refine Go.callV (y := mN10) (z := mN10) (a := s1) (pc' := 6) C X0 (tw hw 39 rfl) (tw hw 40 rfl) (notFace_at C.2.1 (tw hw 42 rfl)) (tw hw 42 rfl) (tw hw 41 rfl) E0 (by decide) (rm_len l Z a0 hw s1 v k ([x0, x1, x2, x3]) cP ((4 : Int32)) h0 O0 E0 Fv Fc Bx SC hP rfl) (tw hw 43 rfl) (tw hw 11 rfl) e0 (argsL := []) (rest := [(.int (2 : Int32)), (.ref s1)]) (W := 2) rfl rfl pd_11 rfl (Nat.le_of_eq rfl) rfl (by decide) (by decide) (by decide) (by decide) d21_3 rfl ?_
  intro T101 v101 L101 X101 q101
  obtain ⟨rfl, rfl, e101⟩ := q101
  have N101 := Fr.app N0 (Fr.nil _)
  refine Go.callV (y := mN12) (z := mN12) (a := s1) (pc' := 9) C X101 (tw hw 101 rfl) (tw hw 102 rfl) (notFace_at C.2.1 (tw hw 104 rfl)) (tw hw 104 rfl) (tw hw 103 rfl) E0 (by decide) (rm_sub24 l Z a0 hw s1 v k x0 x1 x2 x3 cP fm h0 O0 E0 Fv Fc Bx SC SF hP hfm) (tw hw 105 rfl) (tw hw 11 rfl) e101 (argsL := [(.int (2 : Int32)), (.int (4 : Int32))]) (rest := []) (W := 0) rfl rfl pd_15 rfl (Nat.le_of_eq rfl) rfl (by decide) (by decide) (by decide) (by decide) d21_6 rfl ?_
  intro T102 v102 L102 X102 q102
  obtain ⟨r_102, u_102, ku_102, rfl, N102q, K102, B102_0, B102_1, P102_0, P102_1, P102_2, P102_3⟩ := q102
  have N102 := Fr.app N101 N102q
  have n_r_102 : Z.heap.size ≤ r_102 := Nat.le_trans O0.1 B102_0
  have z_r_102 : h0.size ≤ r_102 := Nat.le_trans (Nat.le_refl _) B102_0
  have n_u_102 : Z.heap.size ≤ u_102 := Nat.le_trans O0.1 B102_1
  have z_u_102 : h0.size ≤ u_102 := Nat.le_trans (Nat.le_refl _) B102_1
  have K103 : Keep h0 T102.heap [] := ((Keep.refl h0 []).trans K102 all0)
  exact Go.retA C X102 rfl d21_9 rfl rfl rfl ⟨r_102, u_102, ku_102, rfl, N102, K103, z_r_102, z_u_102, P102_0, P102_1, P102_2, P102_3⟩ (by decide) (by decide)
def Q_crb34 (Z : State) (v : Addr) (k : ClassId) (x0 : Int32) (x1 : Int32) (x2 : Int32) (x3 : Int32) (h0 : Heap) (rv : Option Value) (h : Heap) (L : List Loc) : Prop := ∃ u : Addr, ∃ ku : ClassId, rv = some (.ref u) ∧ Fr Z.heap.size L ∧ Keep h0 h [] ∧ h0.size ≤ u ∧ AL Z h u ku .byte (by8 [x3])
theorem rm_crb34 (l : Launch) (Z : State) (a0 : Array Value) (hw : ∀ d ∈ tables_1, d.before a0 Z = true) (v : Addr) (k : ClassId) (x0 : Int32) (x1 : Int32) (x2 : Int32) (x3 : Int32) (h0 : Heap) (O0 : Ext Z.heap h0) (Bx : AL Z h0 v k .byte (by8 [x0, x1, x2, x3])) :
    Met1 l Z mN22 jdk_65_method_133_code 5 (some (.array .byte)) ({ frames := 1, cells := 1, slots := 1, locals := 18 } : Room) #[(.ref v), (.int (3 : Int32)), (.int (4 : Int32))] h0 (Q_crb34 Z v k x0 x1 x2 x3 h0) := by
  refine Met1.of_body (Ls := #[.val (.ref v), .val (.int (3 : Int32)), .val (.int (4 : Int32)), .unset, .unset]) pf_33 (fun m => by first | (simp [entryFrame, mkF, argsToLocals, Value.category]; done) | rfl) ?_
  intro p e s m below meth c T0 C X0 e0
  have N0 : Fr Z.heap.size [] := Fr.nil _
  refine Go.iloadN (pc' := 1) C X0 d33_0 rfl rfl ?_
  refine Go.iloadN (pc' := 2) C X0 d33_1 rfl rfl ?_
  refine Go.callS (y := mN20) (pc' := 5) C X0 (tw hw 154 rfl) (tw hw 155 rfl) (by decide) (rm_ckl l Z a0 hw ((3 : Int32)) ((4 : Int32)) h0 O0 (by first | assumption | decide | omega)) (tw hw 156 rfl) (tw hw 149 rfl) e0 (argsL := [(.int (3 : Int32)), (.int (4 : Int32))]) (rest := []) (W := 0) rfl rfl pd_16 rfl (Nat.le_of_eq rfl) rfl (by decide) (by decide) (by decide) (by decide) d33_2 rfl ?_
  intro T101 v101 L101 X101 q101
  obtain ⟨rfl, rfl, e101⟩ := q101
  have N101 := Fr.app N0 (Fr.nil _)
  refine Go.iloadN (pc' := 6) C X101 d33_5 rfl rfl ?_
  refine Go.iloadN (pc' := 7) C X101 d33_6 rfl rfl ?_
  refine Go.isub (pc' := 8) C X101 d33_7 rfl ?_
  rw [show ((4 : Int32) - (3 : Int32)) = (1 : Int32) from by decide]
  refine Go.istoreN (Ls' := #[.val (.ref v), .val (.int (3 : Int32)), .val (.int (4 : Int32)), .val (.int (1 : Int32)), .unset]) (pc' := 9) C X101 d33_8 rfl rfl ?_
  refine Go.iloadN (pc' := 10) C X101 d33_9 rfl rfl ?_
  refine Go.newP (aty := .byte) (cap := 1) (vs := [(.int (0 : Int32))]) (ad := "[B") (pc' := 12) C X101 (by decide) (tw hw 23 rfl) e101 (by decide) (by decide) (by decide) (by decide) (by decide) rfl d33_10 rfl ?_
  intro T102 h102 b102 k102 X102 e102 g102 E102 A102 Ea102
  have n_b102 : Z.heap.size ≤ b102 := Nat.le_trans O0.1 (Nat.le_of_eq g102.symm)
  have z_b102 : h0.size ≤ b102 := Nat.le_trans (Nat.le_refl _) (Nat.le_of_eq g102.symm)
  have A102 : AL Z h102 b102 k102 .byte [(.int (0 : Int32))] := A102
  refine Go.astore (Ls' := #[.val (.ref v), .val (.int (3 : Int32)), .val (.int (4 : Int32)), .val (.int (1 : Int32)), .val (.ref b102)]) (pc' := 14) C X102 d33_12 rfl rfl rfl ?_
  refine Go.aloadN (pc' := 15) C X102 d33_14 rfl rfl rfl ?_
  refine Go.iloadN (pc' := 16) C X102 d33_15 rfl rfl ?_
  refine Go.aload (pc' := 18) C X102 d33_16 rfl rfl rfl ?_
  refine Go.iconst (z := (0 : Int32)) (pc' := 19) C X102 d33_18 rfl rfl ?_
  refine Go.aloadN (pc' := 20) C X102 d33_19 rfl rfl rfl ?_
  have c103 : AL Z h102 v k .byte (by8 [x0, x1, x2, x3]) := (AL.ext E102 Bx)
  refine Go.alen (z := (4 : Int32)) (pc' := 21) C X102 e102 c103 (by rw [by8_len]; rfl) d33_20 rfl ?_
  refine Go.iloadN (pc' := 22) C X102 d33_21 rfl rfl ?_
  refine Go.isub (pc' := 23) C X102 d33_22 rfl ?_
  rw [show ((4 : Int32) - (3 : Int32)) = (1 : Int32) from by decide]
  refine Go.iloadN (pc' := 24) C X102 d33_23 rfl rfl ?_
  have O105 : Ext Z.heap h102 := (Ext.trans O0 E102)
  refine Go.callS (y := mN0) (pc' := 27) C X102 (tw hw 157 rfl) (tw hw 68 rfl) (by decide) (rm_mn l Z a0 hw ((1 : Int32)) h102 O105 ) (tw hw 70 rfl) (tw hw 69 rfl) e102 (argsL := [(.int (1 : Int32)), (.int (1 : Int32))]) (rest := [(.int (0 : Int32)), (.ref b102), (.int (3 : Int32)), (.ref v)]) (W := 4) rfl rfl pd_17 rfl (Nat.le_of_eq rfl) rfl (by decide) (by decide) (by decide) (by decide) d33_24 rfl ?_
  intro T104 v104 L104 X104 q104
  obtain ⟨rfl, rfl, e104⟩ := q104
  have N104 := Fr.app N101 (Fr.nil _)
  refine Go.arrcopy (i := 3) (j := 0) (n := 1) (vd' := (by8 [x3])) (W := 0) (n0 := Z.heap.size) (pc' := 30) C X104 (tw hw 158 rfl) (tw hw 161 rfl) (tw hw 159 rfl) (tw hw 160 rfl) e104 c103 A102 (fit8 _) (fit0 1) (by rw [by8_len]; simp) (by simp) (Or.inl ⟨rfl, rfl⟩) (by decide) (by decide) (by decide) (by decide) (by decide) (by decide) (by rw [by8_len]; simp) (by simp) rfl N104 n_b102 rfl (by decide) (Nat.le_of_eq rfl) (by decide) d33_27 rfl ?_
  intro T106 h106 L106 X106 e106 N106 K106 A106
  refine Go.aload (pc' := 32) C X106 d33_30 rfl rfl rfl ?_
  have K107 : Keep h0 h106 [] := (((Keep.refl h0 []).ext E102).trans K106 (allS (Or.inr z_b102) all0))
  exact Go.retA C X106 rfl d33_32 rfl rfl rfl (by rw [e106]; exact ⟨b102, k102, rfl, N106, K107, z_b102, A106⟩) (by decide) (by decide)
def Q_cra34 (Z : State) (v : Addr) (k : ClassId) (x0 : Int32) (x1 : Int32) (x2 : Int32) (x3 : Int32) (h0 : Heap) (rv : Option Value) (h : Heap) (L : List Loc) : Prop := ∃ u : Addr, ∃ ku : ClassId, rv = some (.ref u) ∧ Fr Z.heap.size L ∧ Keep h0 h [] ∧ h0.size ≤ u ∧ AL Z h u ku .byte (by8 [x3])
theorem rm_cra34 (l : Launch) (Z : State) (a0 : Array Value) (hw : ∀ d ∈ tables_1, d.before a0 Z = true) (v : Addr) (k : ClassId) (x0 : Int32) (x1 : Int32) (x2 : Int32) (x3 : Int32) (h0 : Heap) (O0 : Ext Z.heap h0) (Bx : AL Z h0 v k .byte (by8 [x0, x1, x2, x3])) :
    Met1 l Z mN21 jdk_65_method_132_code 3 (some (.array .byte)) ({ frames := 2, cells := 1, slots := 1, locals := 34 } : Room) #[(.ref v), (.int (3 : Int32)), (.int (4 : Int32))] h0 (Q_cra34 Z v k x0 x1 x2 x3 h0) := by
  refine Met1.of_body (Ls := #[.val (.ref v), .val (.int (3 : Int32)), .val (.int (4 : Int32))]) pf_32 (fun m => by first | (simp [entryFrame, mkF, argsToLocals, Value.category]; done) | rfl) ?_
  intro p e s m below meth c T0 C X0 e0
  have N0 : Fr Z.heap.size [] := Fr.nil _
  refine Go.iloadN (pc' := 1) C X0 d32_0 rfl rfl ?_
  refine Go.ifYes (pc' := 10) C X0 d32_1 ((if0 _ _).trans (feq (x := (3 : Int32)) (y := (0 : Int32)) (by decide)).2) (by decide) (by decide) ?_
  refine Go.aloadN (pc' := 11) C X0 d32_10 rfl rfl rfl ?_
  refine Go.iloadN (pc' := 12) C X0 d32_11 rfl rfl ?_
  refine Go.iloadN (pc' := 13) C X0 d32_12 rfl rfl ?_
  refine Go.callS (y := mN22) (pc' := 16) C X0 (tw hw 151 rfl) (tw hw 152 rfl) (by decide) (rm_crb34 l Z a0 hw v k x0 x1 x2 x3 h0 O0 Bx) (tw hw 153 rfl) (tw hw 149 rfl) e0 (argsL := [(.ref v), (.int (3 : Int32)), (.int (4 : Int32))]) (rest := []) (W := 0) rfl rfl pd_18 rfl (Nat.le_of_eq rfl) rfl (by decide) (by decide) (by decide) (by decide) d32_13 rfl ?_
  intro T102 v102 L102 X102 q102
  obtain ⟨u_102, ku_102, rfl, N102q, K102, B102_0, P102_0⟩ := q102
  have N102 := Fr.app N0 N102q
  have n_u_102 : Z.heap.size ≤ u_102 := Nat.le_trans O0.1 B102_0
  have z_u_102 : h0.size ≤ u_102 := Nat.le_trans (Nat.le_refl _) B102_0
  have K103 : Keep h0 T102.heap [] := ((Keep.refl h0 []).trans K102 all0)
  exact Go.retA C X102 rfl d32_16 rfl rfl rfl ⟨u_102, ku_102, rfl, N102, K103, z_u_102, P102_0⟩ (by decide) (by decide)
def Q_nst34 (Z : State) (v : Addr) (k : ClassId) (x0 : Int32) (x1 : Int32) (x2 : Int32) (x3 : Int32) (h0 : Heap) (rv : Option Value) (h : Heap) (L : List Loc) : Prop := ∃ r : Addr, ∃ u : Addr, ∃ ku : ClassId, rv = some (.ref r) ∧ Fr Z.heap.size L ∧ Keep h0 h [] ∧ h0.size ≤ r ∧ h0.size ≤ u ∧ Exa Z h r "java/lang/String" ∧ Fld Z h r "java/lang/String" "value" "[B" (.ref u) ∧ Fld Z h r "java/lang/String" "coder" "B" (.int (0 : Int32)) ∧ AL Z h u ku .byte (by8 [x3])
theorem rm_nst34 (l : Launch) (Z : State) (a0 : Array Value) (hw : ∀ d ∈ tables_1, d.before a0 Z = true) (v : Addr) (k : ClassId) (x0 : Int32) (x1 : Int32) (x2 : Int32) (x3 : Int32) (h0 : Heap) (O0 : Ext Z.heap h0) (Bx : AL Z h0 v k .byte (by8 [x0, x1, x2, x3])) :
    Met1 l Z mN16 jdk_43_method_47_code 3 (some (.object "java/lang/String")) ({ frames := 3, cells := 2, slots := 5, locals := 50 } : Room) #[(.ref v), (.int (3 : Int32)), (.int (1 : Int32))] h0 (Q_nst34 Z v k x0 x1 x2 x3 h0) := by
  refine Met1.of_body (Ls := #[.val (.ref v), .val (.int (3 : Int32)), .val (.int (1 : Int32))]) pf_25 (fun m => by first | (simp [entryFrame, mkF, argsToLocals, Value.category]; done) | rfl) ?_
  intro p e s m below meth c T0 C X0 e0
  have N0 : Fr Z.heap.size [] := Fr.nil _
  refine Go.iloadN (pc' := 1) C X0 d25_0 rfl rfl ?_
  refine Go.ifYes (pc' := 7) C X0 d25_1 ((if0 _ _).trans (feq (x := (1 : Int32)) (y := (0 : Int32)) (by decide)).2) (by decide) (by decide) ?_
  refine Go.newO (pc' := 10) C X0 (tw hw 146 rfl) (tw hw 10 rfl) (tw hw 11 rfl) e0 (by decide) (by decide) d25_7 rfl ?_
  intro T102 h102 b102 X102 e102 g102 E102 A102 D102
  have n_b102 : Z.heap.size ≤ b102 := Nat.le_trans O0.1 (Nat.le_of_eq g102.symm)
  have z_b102 : h0.size ≤ b102 := Nat.le_trans (Nat.le_refl _) (Nat.le_of_eq g102.symm)
  have F102_value : Fld Z h102 b102 "java/lang/String" "value" "[B" .null := D102 (Or.inr (tw hw 24 rfl)) (ty := (.array .byte)) (by decide)
  have F102_coder : Fld Z h102 b102 "java/lang/String" "coder" "B" (.int (0 : Int32)) := D102 (Or.inr (tw hw 25 rfl)) (ty := .byte) (by decide)
  refine Go.dup (pc' := 11) C X102 d25_10 rfl rfl ?_
  refine Go.aloadN (pc' := 12) C X102 d25_11 rfl rfl rfl ?_
  refine Go.iloadN (pc' := 13) C X102 d25_12 rfl rfl ?_
  refine Go.iloadN (pc' := 14) C X102 d25_13 rfl rfl ?_
  refine Go.iloadN (pc' := 15) C X102 d25_14 rfl rfl ?_
  refine Go.iadd (pc' := 16) C X102 d25_15 rfl ?_
  rw [show ((3 : Int32) + (1 : Int32)) = (4 : Int32) from by decide]
  have c104 : AL Z h102 v k .byte (by8 [x0, x1, x2, x3]) := (AL.ext E102 Bx)
  have O105 : Ext Z.heap h102 := (Ext.trans O0 E102)
  refine Go.callS (y := mN21) (pc' := 19) C X102 (tw hw 147 rfl) (tw hw 148 rfl) (by decide) (rm_cra34 l Z a0 hw v k x0 x1 x2 x3 h102 O105 c104) (tw hw 150 rfl) (tw hw 149 rfl) e102 (argsL := [(.ref v), (.int (3 : Int32)), (.int (4 : Int32))]) (rest := [(.ref b102), (.ref b102)]) (W := 2) rfl rfl pd_18 rfl (Nat.le_of_eq rfl) rfl (by decide) (by decide) (by decide) (by decide) d25_16 rfl ?_
  intro T103 v103 L103 X103 q103
  obtain ⟨u_103, ku_103, rfl, N103q, K103, B103_0, P103_0⟩ := q103
  have N103 := Fr.app N0 N103q
  have n_u_103 : Z.heap.size ≤ u_103 := Nat.le_trans O105.1 B103_0
  have z_u_103 : h0.size ≤ u_103 := Nat.le_trans (Nat.le_trans (Nat.le_refl _) E102.1) B103_0
  refine Go.iconst (z := (0 : Int32)) (pc' := 20) C X103 d25_19 rfl rfl ?_
  have c107 : Exa Z T103.heap b102 "java/lang/String" := (Exa.keep A102 K103)
  have c108 : Fld Z T103.heap b102 "java/lang/String" "value" "[B" .null := (Fld.keep F102_value K103 nin0)
  have c109 : Fld Z T103.heap b102 "java/lang/String" "coder" "B" (.int (0 : Int32)) := (Fld.keep F102_coder K103 nin0)
  have O110 : Ext Z.heap T103.heap := (Ext.keep O105 K103 all0)
  refine Go.callI (y := mN1) (a := b102) (pc' := 23) C X103 rfl (tw hw 162 rfl) (tw hw 163 rfl) (by decide) (rm_sIb l Z a0 hw b102 u_103 T103.heap O110 c107 c108 c109 n_b102) (tw hw 164 rfl) (tw hw 11 rfl) rfl (argsL := [(.ref u_103), (.int (0 : Int32))]) (rest := [(.ref b102)]) (W := 1) rfl rfl pd_19 rfl (Nat.le_of_eq rfl) rfl (by decide) (by decide) (by decide) (by decide) rfl d25_20 rfl ?_
  intro T106 v106 L106 X106 q106
  obtain ⟨rfl, N106q, K106, P106_0, P106_1⟩ := q106
  have N106 := Fr.app N103 N106q
  have K111 : Keep h0 T106.heap [] := ((((Keep.refl h0 []).ext E102).trans K103 all0).trans K106 (allS (Or.inr z_b102) all0))
  have c112 : Exa Z T106.heap b102 "java/lang/String" := (Exa.keep c107 K106)
  have ne113 : u_103 ≠ b102 := (Nat.ne_of_gt (Nat.lt_of_lt_of_le A102.lt (Nat.le_trans (Nat.le_refl _) B103_0)))
  have c114 : AL Z T106.heap u_103 ku_103 .byte (by8 [x3]) := (AL.keep P103_0 K106 (ninS ne113 nin0))
  exact Go.retA C X106 rfl d25_23 rfl rfl rfl ⟨b102, u_103, ku_103, rfl, N106, K111, z_b102, z_u_103, c112, P106_0, P106_1, c114⟩ (by decide) (by decide)
def Q_sub34 (Z : State) (s1 : Addr) (v : Addr) (k : ClassId) (x0 : Int32) (x1 : Int32) (x2 : Int32) (x3 : Int32) (cP : Int32) (fm : Value) (h0 : Heap) (rv : Option Value) (h : Heap) (L : List Loc) : Prop := ∃ r : Addr, ∃ u : Addr, ∃ ku : ClassId, rv = some (.ref r) ∧ Fr Z.heap.size L ∧ Keep h0 h [] ∧ h0.size ≤ r ∧ h0.size ≤ u ∧ Exa Z h r "java/lang/String" ∧ Fld Z h r "java/lang/String" "value" "[B" (.ref u) ∧ Fld Z h r "java/lang/String" "coder" "B" (.int (0 : Int32)) ∧ AL Z h u ku .byte (by8 [x3])
theorem rm_sub34 (l : Launch) (Z : State) (a0 : Array Value) (hw : ∀ d ∈ tables_1, d.before a0 Z = true) (s1 : Addr) (v : Addr) (k : ClassId) (x0 : Int32) (x1 : Int32) (x2 : Int32) (x3 : Int32) (cP : Int32) (fm : Value) (h0 : Heap) (O0 : Ext Z.heap h0) (E0 : Exa Z h0 s1 "java/lang/String") (Fv : Fld Z h0 s1 "java/lang/String" "value" "[B" (.ref v)) (Fc : Fld Z h0 s1 "java/lang/String" "coder" "B" (.int (0 : Int32))) (Bx : AL Z h0 v k .byte (by8 [x0, x1, x2, x3])) (SC : Sta Z Z.heap "java/lang/String" "COMPACT_STRINGS" "Z" (.int cP)) (SF : Sta Z Z.heap "jdk/internal/util/Preconditions" "SIOOBE_FORMATTER" "Ljava/util/function/BiFunction;" fm) (hP : ¬ cP = (0 : Int32)) (hfm : fm.category = 1) :
    Met1 l Z mN12 jdk_42_method_92_code 5 (some (.object "java/lang/String")) ({ frames := 4, cells := 2, slots := 5, locals := 64 } : Room) #[(.ref s1), (.int (3 : Int32)), (.int (4 : Int32))] h0 (Q_sub34 Z s1 v k x0 x1 x2 x3 cP fm h0) := by
  refine Met1.of_body (Ls := #[.val (.ref s1), .val (.int (3 : Int32)), .val (.int (4 : Int32)), .unset, .unset]) pf_22 (fun m => by first | (simp [entryFrame, mkF, argsToLocals, Value.category]; done) | rfl) ?_
  intro p e s m below meth c T0 C X0 e0
  have N0 : Fr Z.heap.size [] := Fr.nil _
  refine Go.aloadN (pc' := 1) C X0 d22_0 rfl rfl rfl ?_
  refine Go.callV (y := mN10) (z := mN10) (a := s1) (pc' := 4) C X0 (tw hw 39 rfl) (tw hw 40 rfl) (notFace_at C.2.1 (tw hw 42 rfl)) (tw hw 42 rfl) (tw hw 41 rfl) E0 (by decide) (rm_len l Z a0 hw s1 v k ([x0, x1, x2, x3]) cP ((4 : Int32)) h0 O0 E0 Fv Fc Bx SC hP rfl) (tw hw 43 rfl) (tw hw 11 rfl) e0 (argsL := []) (rest := []) (W := 0) rfl rfl pd_11 rfl (Nat.le_of_eq rfl) rfl (by decide) (by decide) (by decide) (by decide) d22_1 rfl ?_
  intro T101 v101 L101 X101 q101
  obtain ⟨rfl, rfl, e101⟩ := q101
  have N101 := Fr.app N0 (Fr.nil _)
  refine Go.istoreN (Ls' := #[.val (.ref s1), .val (.int (3 : Int32)), .val (.int (4 : Int32)), .val (.int (4 : Int32)), .unset]) (pc' := 5) C X101 d22_4 rfl rfl ?_
  refine Go.iloadN (pc' := 6) C X101 d22_5 rfl rfl ?_
  refine Go.iloadN (pc' := 7) C X101 d22_6 rfl rfl ?_
  refine Go.iloadN (pc' := 8) C X101 d22_7 rfl rfl ?_
  refine Go.callS (y := mN4) (pc' := 11) C X101 (tw hw 106 rfl) (tw hw 107 rfl) (by decide) (rm_cbe l Z a0 hw ((3 : Int32)) ((4 : Int32)) fm h0 O0 SF (by first | assumption | decide | omega) (by first | assumption | decide | omega) hfm) (tw hw 108 rfl) (tw hw 11 rfl) e101 (argsL := [(.int (3 : Int32)), (.int (4 : Int32)), (.int (4 : Int32))]) (rest := []) (W := 0) rfl rfl pd_12 rfl (Nat.le_of_eq rfl) rfl (by decide) (by decide) (by decide) (by decide) d22_8 rfl ?_
  intro T102 v102 L102 X102 q102
  obtain ⟨rfl, rfl, e102⟩ := q102
  have N102 := Fr.app N101 (Fr.nil _)
  refine Go.iloadN (pc' := 12) C X102 d22_11 rfl rfl ?_
  refine Go.ifYes (pc' := 22) C X102 d22_12 ((if0 _ _).trans (feq (x := (3 : Int32)) (y := (0 : Int32)) (by decide)).2) (by decide) (by decide) ?_
  refine Go.iloadN (pc' := 23) C X102 d22_22 rfl rfl ?_
  refine Go.iloadN (pc' := 24) C X102 d22_23 rfl rfl ?_
  refine Go.isub (pc' := 25) C X102 d22_24 rfl ?_
  rw [show ((4 : Int32) - (3 : Int32)) = (1 : Int32) from by decide]
  refine Go.istore (Ls' := #[.val (.ref s1), .val (.int (3 : Int32)), .val (.int (4 : Int32)), .val (.int (4 : Int32)), .val (.int (1 : Int32))]) (pc' := 27) C X102 d22_25 rfl rfl ?_
  refine Go.aloadN (pc' := 28) C X102 d22_27 rfl rfl rfl ?_
  refine Go.callV (y := mN7) (z := mN7) (a := s1) (pc' := 31) C X102 (tw hw 55 rfl) (tw hw 56 rfl) (notFace_at C.2.1 (tw hw 58 rfl)) (tw hw 58 rfl) (tw hw 57 rfl) E0 (by decide) (rm_isL l Z a0 hw s1 cP h0 O0 Fc SC hP) (tw hw 59 rfl) (tw hw 11 rfl) e102 (argsL := []) (rest := []) (W := 0) rfl rfl pd_13 rfl (Nat.le_of_eq rfl) rfl (by decide) (by decide) (by decide) (by decide) d22_28 rfl ?_
  intro T104 v104 L104 X104 q104
  obtain ⟨rfl, rfl, e104⟩ := q104
  have N104 := Fr.app N102 (Fr.nil _)
  refine Go.ifNo (pc' := 34) C X104 d22_31 ((if0 _ _).trans (feq (x := (1 : Int32)) (y := (0 : Int32)) (by decide)).1) rfl ?_
  refine Go.aloadN (pc' := 35) C X104 d22_34 rfl rfl rfl ?_
  refine Go.getF (pc' := 38) (host := "") C X104 (Or.inl (tw hw 28 rfl)) Via.refl e104 Fv d22_35 rfl ?_
  intro T106 X106 e106
  refine Go.iloadN (pc' := 39) C X106 d22_38 rfl rfl ?_
  refine Go.iload (pc' := 41) C X106 d22_39 rfl rfl ?_
  refine Go.callS (y := mN16) (pc' := 44) C X106 (tw hw 114 rfl) (tw hw 115 rfl) (by decide) (rm_nst34 l Z a0 hw v k x0 x1 x2 x3 h0 O0 Bx) (tw hw 116 rfl) (tw hw 62 rfl) e106 (argsL := [(.ref v), (.int (3 : Int32)), (.int (1 : Int32))]) (rest := []) (W := 0) rfl rfl pd_14 rfl (Nat.le_of_eq rfl) rfl (by decide) (by decide) (by decide) (by decide) d22_41 rfl ?_
  intro T107 v107 L107 X107 q107
  obtain ⟨r_107, u_107, ku_107, rfl, N107q, K107, B107_0, B107_1, P107_0, P107_1, P107_2, P107_3⟩ := q107
  have N107 := Fr.app N104 N107q
  have n_r_107 : Z.heap.size ≤ r_107 := Nat.le_trans O0.1 B107_0
  have z_r_107 : h0.size ≤ r_107 := Nat.le_trans (Nat.le_refl _) B107_0
  have n_u_107 : Z.heap.size ≤ u_107 := Nat.le_trans O0.1 B107_1
  have z_u_107 : h0.size ≤ u_107 := Nat.le_trans (Nat.le_refl _) B107_1
  refine Go.goto (pc' := 57) C X107 d22_44 (by decide) (by decide) ?_
  have K108 : Keep h0 T107.heap [] := ((Keep.refl h0 []).trans K107 all0)
  exact Go.retA C X107 rfl d22_57 rfl rfl rfl ⟨r_107, u_107, ku_107, rfl, N107, K108, z_r_107, z_u_107, P107_0, P107_1, P107_2, P107_3⟩ (by decide) (by decide)
def Q_su134 (Z : State) (s1 : Addr) (v : Addr) (k : ClassId) (x0 : Int32) (x1 : Int32) (x2 : Int32) (x3 : Int32) (cP : Int32) (fm : Value) (h0 : Heap) (rv : Option Value) (h : Heap) (L : List Loc) : Prop := ∃ r : Addr, ∃ u : Addr, ∃ ku : ClassId, rv = some (.ref r) ∧ Fr Z.heap.size L ∧ Keep h0 h [] ∧ h0.size ≤ r ∧ h0.size ≤ u ∧ Exa Z h r "java/lang/String" ∧ Fld Z h r "java/lang/String" "value" "[B" (.ref u) ∧ Fld Z h r "java/lang/String" "coder" "B" (.int (0 : Int32)) ∧ AL Z h u ku .byte (by8 [x3])
theorem rm_su134 (l : Launch) (Z : State) (a0 : Array Value) (hw : ∀ d ∈ tables_1, d.before a0 Z = true) (s1 : Addr) (v : Addr) (k : ClassId) (x0 : Int32) (x1 : Int32) (x2 : Int32) (x3 : Int32) (cP : Int32) (fm : Value) (h0 : Heap) (O0 : Ext Z.heap h0) (E0 : Exa Z h0 s1 "java/lang/String") (Fv : Fld Z h0 s1 "java/lang/String" "value" "[B" (.ref v)) (Fc : Fld Z h0 s1 "java/lang/String" "coder" "B" (.int (0 : Int32))) (Bx : AL Z h0 v k .byte (by8 [x0, x1, x2, x3])) (SC : Sta Z Z.heap "java/lang/String" "COMPACT_STRINGS" "Z" (.int cP)) (SF : Sta Z Z.heap "jdk/internal/util/Preconditions" "SIOOBE_FORMATTER" "Ljava/util/function/BiFunction;" fm) (hP : ¬ cP = (0 : Int32)) (hfm : fm.category = 1) :
    Met1 l Z mN11 jdk_42_method_91_code 2 (some (.object "java/lang/String")) ({ frames := 5, cells := 2, slots := 5, locals := 80 } : Room) #[(.ref s1), (.int (3 : Int32))] h0 (Q_su134 Z s1 v k x0 x1 x2 x3 cP fm h0) := by
  refine Met1.of_body (Ls := #[.val (.ref s1), .val (.int (3 : Int32))]) pf_21 (fun m => by first | (simp [entryFrame, mkF, argsToLocals, Value.category]; done) | rfl) ?_
  intro p e s m below meth c T0 C X0 e0
  have N0 : Fr Z.heap.size [] := Fr.nil _
  refine Go.aloadN (pc' := 1) C X0 d21_0 rfl rfl rfl ?_
  refine Go.iloadN (pc' := 2) C X0 d21_1 rfl rfl ?_
  refine Go.aloadN (pc' := 3) C X0 d21_2 rfl rfl rfl ?_
  refine Go.callV (y := mN10) (z := mN10) (a := s1) (pc' := 6) C X0 (tw hw 39 rfl) (tw hw 40 rfl) (notFace_at C.2.1 (tw hw 42 rfl)) (tw hw 42 rfl) (tw hw 41 rfl) E0 (by decide) (rm_len l Z a0 hw s1 v k ([x0, x1, x2, x3]) cP ((4 : Int32)) h0 O0 E0 Fv Fc Bx SC hP rfl) (tw hw 43 rfl) (tw hw 11 rfl) e0 (argsL := []) (rest := [(.int (3 : Int32)), (.ref s1)]) (W := 2) rfl rfl pd_11 rfl (Nat.le_of_eq rfl) rfl (by decide) (by decide) (by decide) (by decide) d21_3 rfl ?_
  intro T101 v101 L101 X101 q101
  obtain ⟨rfl, rfl, e101⟩ := q101
  have N101 := Fr.app N0 (Fr.nil _)
  refine Go.callV (y := mN12) (z := mN12) (a := s1) (pc' := 9) C X101 (tw hw 101 rfl) (tw hw 102 rfl) (notFace_at C.2.1 (tw hw 104 rfl)) (tw hw 104 rfl) (tw hw 103 rfl) E0 (by decide) (rm_sub34 l Z a0 hw s1 v k x0 x1 x2 x3 cP fm h0 O0 E0 Fv Fc Bx SC SF hP hfm) (tw hw 105 rfl) (tw hw 11 rfl) e101 (argsL := [(.int (3 : Int32)), (.int (4 : Int32))]) (rest := []) (W := 0) rfl rfl pd_15 rfl (Nat.le_of_eq rfl) rfl (by decide) (by decide) (by decide) (by decide) d21_6 rfl ?_
  intro T102 v102 L102 X102 q102
  obtain ⟨r_102, u_102, ku_102, rfl, N102q, K102, B102_0, B102_1, P102_0, P102_1, P102_2, P102_3⟩ := q102
  have N102 := Fr.app N101 N102q
  have n_r_102 : Z.heap.size ≤ r_102 := Nat.le_trans O0.1 B102_0
  have z_r_102 : h0.size ≤ r_102 := Nat.le_trans (Nat.le_refl _) B102_0
  have n_u_102 : Z.heap.size ≤ u_102 := Nat.le_trans O0.1 B102_1
  have z_u_102 : h0.size ≤ u_102 := Nat.le_trans (Nat.le_refl _) B102_1
  have K103 : Keep h0 T102.heap [] := ((Keep.refl h0 []).trans K102 all0)
  exact Go.retA C X102 rfl d21_9 rfl rfl rfl ⟨r_102, u_102, ku_102, rfl, N102, K103, z_r_102, z_u_102, P102_0, P102_1, P102_2, P102_3⟩ (by decide) (by decide)
def Q_nst44 (Z : State) (v : Addr) (k : ClassId) (x0 : Int32) (x1 : Int32) (x2 : Int32) (x3 : Int32) (h0 : Heap) (rv : Option Value) (h : Heap) (L : List Loc) : Prop := ∃ r : Addr, ∃ u : Addr, ∃ ku : ClassId, rv = some (.ref r) ∧ Fr Z.heap.size L ∧ Keep h0 h [] ∧ Exa Z h r "java/lang/String" ∧ Fld Z h r "java/lang/String" "value" "[B" (.ref u) ∧ Fld Z h r "java/lang/String" "coder" "B" (.int (0 : Int32)) ∧ AL Z h u ku .byte (by8 [])
theorem rm_nst44 (l : Launch) (Z : State) (a0 : Array Value) (hw : ∀ d ∈ tables_1, d.before a0 Z = true) (v : Addr) (k : ClassId) (x0 : Int32) (x1 : Int32) (x2 : Int32) (x3 : Int32) (h0 : Heap) (O0 : Ext Z.heap h0) (Bx : AL Z h0 v k .byte (by8 [x0, x1, x2, x3])) :
    Met1H consts_1 [] l Z mN16 jdk_43_method_47_code 3 (some (.object "java/lang/String")) ({ frames := 0, cells := 2, slots := 4, locals := 0 } : Room) #[(.ref v), (.int (4 : Int32)), (.int (0 : Int32))] h0 (Q_nst44 Z v k x0 x1 x2 x3 h0) := by
  refine Met1H.of_body (Ls := #[.val (.ref v), .val (.int (4 : Int32)), .val (.int (0 : Int32))]) pf_25 (fun m => by first | (simp [entryFrame, mkF, argsToLocals, Value.category]; done) | rfl) ?_
  intro p e s m below meth c T0 C X0 e0 hH0 hsf0
  have Hr0 := CHr.refl hH0
  have N0 : Fr Z.heap.size [] := Fr.nil _
  have Si0 : Sin s s h0 := Sin.start s h0
  refine Go.iloadN (pc' := 1) C X0 d25_0 rfl rfl ?_
  refine Go.ifNo (pc' := 4) C X0 d25_1 ((if0 _ _).trans (teq (x := (0 : Int32)) (y := (0 : Int32)) (by decide)).2) rfl ?_
  refine Go.ldcH (pc' := 6) (n := 0) (vs := []) (z := (0 : Int32)) C X0 Si0 (EWc hw) Hr0.1 (tw hw 117 rfl) (wS hw) e0 (by decide) (by decide) (by decide) (by decide) (by decide) (by decide) (by decide) (by decide) d25_4 rfl ?_
  intro T102 h102 b102 sC102 v102 k102 C102 X102 e102 Si102 E102 hR102 A102 F102c F102v B102 hne102
  have Hr103 := CHr.trans Hr0 hR102
  have K104 : Keep h0 h102 [] := ((Keep.refl h0 []).ext E102)
  exact Go.retAH C102 X102 (by rw [e102]; exact Si102) (EWc hw) (by rw [e102]; exact Hr103) rfl d25_6 rfl rfl rfl (by rw [e102]; exact ⟨b102, v102, k102, rfl, N0, K104, A102, F102v, F102c, B102⟩) (by decide) (by decide)
def Q_sub44 (Z : State) (s1 : Addr) (v : Addr) (k : ClassId) (x0 : Int32) (x1 : Int32) (x2 : Int32) (x3 : Int32) (cP : Int32) (fm : Value) (h0 : Heap) (rv : Option Value) (h : Heap) (L : List Loc) : Prop := ∃ r : Addr, ∃ u : Addr, ∃ ku : ClassId, rv = some (.ref r) ∧ Fr Z.heap.size L ∧ Keep h0 h [] ∧ Exa Z h r "java/lang/String" ∧ Fld Z h r "java/lang/String" "value" "[B" (.ref u) ∧ Fld Z h r "java/lang/String" "coder" "B" (.int (0 : Int32)) ∧ AL Z h u ku .byte (by8 [])
theorem rm_sub44 (l : Launch) (Z : State) (a0 : Array Value) (hw : ∀ d ∈ tables_1, d.before a0 Z = true) (s1 : Addr) (v : Addr) (k : ClassId) (x0 : Int32) (x1 : Int32) (x2 : Int32) (x3 : Int32) (cP : Int32) (fm : Value) (h0 : Heap) (O0 : Ext Z.heap h0) (E0 : Exa Z h0 s1 "java/lang/String") (Fv : Fld Z h0 s1 "java/lang/String" "value" "[B" (.ref v)) (Fc : Fld Z h0 s1 "java/lang/String" "coder" "B" (.int (0 : Int32))) (Bx : AL Z h0 v k .byte (by8 [x0, x1, x2, x3])) (SC : Sta Z Z.heap "java/lang/String" "COMPACT_STRINGS" "Z" (.int cP)) (SF : Sta Z Z.heap "jdk/internal/util/Preconditions" "SIOOBE_FORMATTER" "Ljava/util/function/BiFunction;" fm) (hP : ¬ cP = (0 : Int32)) (hfm : fm.category = 1) :
    Met1H consts_1 [] l Z mN12 jdk_42_method_92_code 5 (some (.object "java/lang/String")) ({ frames := 2, cells := 2, slots := 4, locals := 29 } : Room) #[(.ref s1), (.int (4 : Int32)), (.int (4 : Int32))] h0 (Q_sub44 Z s1 v k x0 x1 x2 x3 cP fm h0) := by
  refine Met1H.of_body (Ls := #[.val (.ref s1), .val (.int (4 : Int32)), .val (.int (4 : Int32)), .unset, .unset]) pf_22 (fun m => by first | (simp [entryFrame, mkF, argsToLocals, Value.category]; done) | rfl) ?_
  intro p e s m below meth c T0 C X0 e0 hH0 hsf0
  have Hr0 := CHr.refl hH0
  have N0 : Fr Z.heap.size [] := Fr.nil _
  have Si0 : Sin s s h0 := Sin.start s h0
  refine Go.aloadN (pc' := 1) C X0 d22_0 rfl rfl rfl ?_
  refine Go.callV (y := mN10) (z := mN10) (a := s1) (pc' := 4) C X0 (tw hw 39 rfl) (tw hw 40 rfl) (notFace_at C.2.1 (tw hw 42 rfl)) (tw hw 42 rfl) (tw hw 41 rfl) E0 (by decide) (rm_len l Z a0 hw s1 v k ([x0, x1, x2, x3]) cP ((4 : Int32)) h0 O0 E0 Fv Fc Bx SC hP rfl) (tw hw 43 rfl) (tw hw 11 rfl) e0 (argsL := []) (rest := []) (W := 0) rfl rfl pd_11 rfl (Nat.le_of_eq rfl) rfl (by decide) (by decide) (by decide) (by decide) d22_1 rfl ?_
  intro T101 v101 L101 X101 q101
  obtain ⟨rfl, rfl, e101⟩ := q101
  have N101 := Fr.app N0 (Fr.nil _)
  refine Go.istoreN (Ls' := #[.val (.ref s1), .val (.int (4 : Int32)), .val (.int (4 : Int32)), .val (.int (4 : Int32)), .unset]) (pc' := 5) C X101 d22_4 rfl rfl ?_
  refine Go.iloadN (pc' := 6) C X101 d22_5 rfl rfl ?_
  refine Go.iloadN (pc' := 7) C X101 d22_6 rfl rfl ?_
  refine Go.iloadN (pc' := 8) C X101 d22_7 rfl rfl ?_
  refine Go.callS (y := mN4) (pc' := 11) C X101 (tw hw 106 rfl) (tw hw 107 rfl) (by decide) (rm_cbe l Z a0 hw ((4 : Int32)) ((4 : Int32)) fm h0 O0 SF (by first | assumption | decide | omega) (by first | assumption | decide | omega) hfm) (tw hw 108 rfl) (tw hw 11 rfl) e101 (argsL := [(.int (4 : Int32)), (.int (4 : Int32)), (.int (4 : Int32))]) (rest := []) (W := 0) rfl rfl pd_12 rfl (Nat.le_of_eq rfl) rfl (by decide) (by decide) (by decide) (by decide) d22_8 rfl ?_
  intro T102 v102 L102 X102 q102
  obtain ⟨rfl, rfl, e102⟩ := q102
  have N102 := Fr.app N101 (Fr.nil _)
  refine Go.iloadN (pc' := 12) C X102 d22_11 rfl rfl ?_
  refine Go.ifYes (pc' := 22) C X102 d22_12 ((if0 _ _).trans (feq (x := (4 : Int32)) (y := (0 : Int32)) (by decide)).2) (by decide) (by decide) ?_
  refine Go.iloadN (pc' := 23) C X102 d22_22 rfl rfl ?_
  refine Go.iloadN (pc' := 24) C X102 d22_23 rfl rfl ?_
  refine Go.isub (pc' := 25) C X102 d22_24 rfl ?_
  rw [show ((4 : Int32) - (4 : Int32)) = (0 : Int32) from by decide]
  refine Go.istore (Ls' := #[.val (.ref s1), .val (.int (4 : Int32)), .val (.int (4 : Int32)), .val (.int (4 : Int32)), .val (.int (0 : Int32))]) (pc' := 27) C X102 d22_25 rfl rfl ?_
  refine Go.aloadN (pc' := 28) C X102 d22_27 rfl rfl rfl ?_
  refine Go.callV (y := mN7) (z := mN7) (a := s1) (pc' := 31) C X102 (tw hw 55 rfl) (tw hw 56 rfl) (notFace_at C.2.1 (tw hw 58 rfl)) (tw hw 58 rfl) (tw hw 57 rfl) E0 (by decide) (rm_isL l Z a0 hw s1 cP h0 O0 Fc SC hP) (tw hw 59 rfl) (tw hw 11 rfl) e102 (argsL := []) (rest := []) (W := 0) rfl rfl pd_13 rfl (Nat.le_of_eq rfl) rfl (by decide) (by decide) (by decide) (by decide) d22_28 rfl ?_
  intro T104 v104 L104 X104 q104
  obtain ⟨rfl, rfl, e104⟩ := q104
  have N104 := Fr.app N102 (Fr.nil _)
  refine Go.ifNo (pc' := 34) C X104 d22_31 ((if0 _ _).trans (feq (x := (1 : Int32)) (y := (0 : Int32)) (by decide)).1) rfl ?_
  refine Go.aloadN (pc' := 35) C X104 d22_34 rfl rfl rfl ?_
  refine Go.getF (pc' := 38) (host := "") C X104 (Or.inl (tw hw 28 rfl)) Via.refl e104 Fv d22_35 rfl ?_
  intro T106 X106 e106
  refine Go.iloadN (pc' := 39) C X106 d22_38 rfl rfl ?_
  refine Go.iload (pc' := 41) C X106 d22_39 rfl rfl ?_
  refine Go.callSH (y := mN16) (pc' := 44) C X106 Si0 (EWc hw) Hr0.1 (tw hw 114 rfl) (tw hw 115 rfl) (by decide) all0 (rm_nst44 l Z a0 hw v k x0 x1 x2 x3 h0 O0 Bx) (tw hw 116 rfl) (tw hw 62 rfl) e106 (argsL := [(.ref v), (.int (4 : Int32)), (.int (0 : Int32))]) (rest := []) (W := 0) rfl rfl pd_14 rfl (Nat.le_of_eq rfl) rfl (by decide) (by decide) (by decide) (by decide) d22_41 rfl ?_
  intro T107 v107 L107 sC107 C107 X107 Si107 hR107 q107
  obtain ⟨r_107, u_107, ku_107, rfl, N107q, K107, P107_0, P107_1, P107_2, P107_3⟩ := q107
  have N107 := Fr.app N104 N107q
  have Hr108 := CHr.trans Hr0 hR107
  refine Go.goto (pc' := 57) C107 X107 d22_44 (by decide) (by decide) ?_
  have K109 : Keep h0 T107.heap [] := ((Keep.refl h0 []).trans K107 all0)
  exact Go.retAH C107 X107 Si107 (EWc hw) Hr108 rfl d22_57 rfl rfl rfl ⟨r_107, u_107, ku_107, rfl, N107, K109, P107_0, P107_1, P107_2, P107_3⟩ (by decide) (by decide)
def Q_su144 (Z : State) (s1 : Addr) (v : Addr) (k : ClassId) (x0 : Int32) (x1 : Int32) (x2 : Int32) (x3 : Int32) (cP : Int32) (fm : Value) (h0 : Heap) (rv : Option Value) (h : Heap) (L : List Loc) : Prop := ∃ r : Addr, ∃ u : Addr, ∃ ku : ClassId, rv = some (.ref r) ∧ Fr Z.heap.size L ∧ Keep h0 h [] ∧ Exa Z h r "java/lang/String" ∧ Fld Z h r "java/lang/String" "value" "[B" (.ref u) ∧ Fld Z h r "java/lang/String" "coder" "B" (.int (0 : Int32)) ∧ AL Z h u ku .byte (by8 [])
theorem rm_su144 (l : Launch) (Z : State) (a0 : Array Value) (hw : ∀ d ∈ tables_1, d.before a0 Z = true) (s1 : Addr) (v : Addr) (k : ClassId) (x0 : Int32) (x1 : Int32) (x2 : Int32) (x3 : Int32) (cP : Int32) (fm : Value) (h0 : Heap) (O0 : Ext Z.heap h0) (E0 : Exa Z h0 s1 "java/lang/String") (Fv : Fld Z h0 s1 "java/lang/String" "value" "[B" (.ref v)) (Fc : Fld Z h0 s1 "java/lang/String" "coder" "B" (.int (0 : Int32))) (Bx : AL Z h0 v k .byte (by8 [x0, x1, x2, x3])) (SC : Sta Z Z.heap "java/lang/String" "COMPACT_STRINGS" "Z" (.int cP)) (SF : Sta Z Z.heap "jdk/internal/util/Preconditions" "SIOOBE_FORMATTER" "Ljava/util/function/BiFunction;" fm) (hP : ¬ cP = (0 : Int32)) (hfm : fm.category = 1) :
    Met1H consts_1 [] l Z mN11 jdk_42_method_91_code 2 (some (.object "java/lang/String")) ({ frames := 3, cells := 2, slots := 4, locals := 45 } : Room) #[(.ref s1), (.int (4 : Int32))] h0 (Q_su144 Z s1 v k x0 x1 x2 x3 cP fm h0) := by
  refine Met1H.of_body (Ls := #[.val (.ref s1), .val (.int (4 : Int32))]) pf_21 (fun m => by first | (simp [entryFrame, mkF, argsToLocals, Value.category]; done) | rfl) ?_
  intro p e s m below meth c T0 C X0 e0 hH0 hsf0
  have Hr0 := CHr.refl hH0
  have N0 : Fr Z.heap.size [] := Fr.nil _
  have Si0 : Sin s s h0 := Sin.start s h0
  refine Go.aloadN (pc' := 1) C X0 d21_0 rfl rfl rfl ?_
  refine Go.iloadN (pc' := 2) C X0 d21_1 rfl rfl ?_
  refine Go.aloadN (pc' := 3) C X0 d21_2 rfl rfl rfl ?_
  refine Go.callV (y := mN10) (z := mN10) (a := s1) (pc' := 6) C X0 (tw hw 39 rfl) (tw hw 40 rfl) (notFace_at C.2.1 (tw hw 42 rfl)) (tw hw 42 rfl) (tw hw 41 rfl) E0 (by decide) (rm_len l Z a0 hw s1 v k ([x0, x1, x2, x3]) cP ((4 : Int32)) h0 O0 E0 Fv Fc Bx SC hP rfl) (tw hw 43 rfl) (tw hw 11 rfl) e0 (argsL := []) (rest := [(.int (4 : Int32)), (.ref s1)]) (W := 2) rfl rfl pd_11 rfl (Nat.le_of_eq rfl) rfl (by decide) (by decide) (by decide) (by decide) d21_3 rfl ?_
  intro T101 v101 L101 X101 q101
  obtain ⟨rfl, rfl, e101⟩ := q101
  have N101 := Fr.app N0 (Fr.nil _)
  refine Go.callVH (y := mN12) (z := mN12) (a := s1) (pc' := 9) C X101 Si0 (EWc hw) Hr0.1 (tw hw 101 rfl) (tw hw 102 rfl) (notFace_at C.2.1 (tw hw 104 rfl)) (tw hw 104 rfl) (tw hw 103 rfl) E0 (by decide) all0 (rm_sub44 l Z a0 hw s1 v k x0 x1 x2 x3 cP fm h0 O0 E0 Fv Fc Bx SC SF hP hfm) (tw hw 105 rfl) (tw hw 11 rfl) e101 (argsL := [(.int (4 : Int32)), (.int (4 : Int32))]) (rest := []) (W := 0) rfl rfl pd_15 rfl (Nat.le_of_eq rfl) rfl (by decide) (by decide) (by decide) (by decide) d21_6 rfl ?_
  intro T102 v102 L102 sC102 C102 X102 Si102 hR102 q102
  obtain ⟨r_102, u_102, ku_102, rfl, N102q, K102, P102_0, P102_1, P102_2, P102_3⟩ := q102
  have N102 := Fr.app N101 N102q
  have Hr103 := CHr.trans Hr0 hR102
  have K104 : Keep h0 T102.heap [] := ((Keep.refl h0 []).trans K102 all0)
  exact Go.retAH C102 X102 Si102 (EWc hw) Hr103 rfl d21_9 rfl rfl rfl ⟨r_102, u_102, ku_102, rfl, N102, K104, P102_0, P102_1, P102_2, P102_3⟩ (by decide) (by decide)
theorem pd_20 : parseMethodDescriptor "(I)Z" = some ⟨[.int], some .boolean⟩ := by decide +kernel
theorem pf_12 : plainFor mN15 = true := plainFor_of_name (by first | (simp [plainName, overriddenIn]; done) | decide +kernel)
theorem d12_0 : decode jdk_43_method_27_code 0 = .ok (.iload_n 1, 1) := by decide +kernel
theorem d12_1 : decode jdk_43_method_27_code 1 = .ok (.invokestatic 88, 3) := by decide +kernel
theorem d12_4 : decode jdk_43_method_27_code 4 = .ok (.ifCond .ne 5, 3) := by decide +kernel
theorem d12_9 : decode jdk_43_method_27_code 9 = .ok (.iload_n 2, 1) := by decide +kernel
theorem d12_10 : decode jdk_43_method_27_code 10 = .ok (.aload_n 0, 1) := by decide +kernel
theorem d12_11 : decode jdk_43_method_27_code 11 = .ok (.arraylength, 1) := by decide +kernel
theorem d12_12 : decode jdk_43_method_27_code 12 = .ok (.iconst 1, 1) := by decide +kernel
theorem d12_13 : decode jdk_43_method_27_code 13 = .ok (.isub, 1) := by decide +kernel
theorem d12_14 : decode jdk_43_method_27_code 14 = .ok (.invokestatic 38, 3) := by decide +kernel
theorem d12_17 : decode jdk_43_method_27_code 17 = .ok (.istore_n 3, 1) := by decide +kernel
theorem d12_18 : decode jdk_43_method_27_code 18 = .ok (.iload_n 3, 1) := by decide +kernel
theorem d12_19 : decode jdk_43_method_27_code 19 = .ok (.ifCond .lt 19, 3) := by decide +kernel
theorem d12_38 : decode jdk_43_method_27_code 38 = .ok (.iconst (-1), 1) := by decide +kernel
theorem d12_39 : decode jdk_43_method_27_code 39 = .ok (.ireturn, 1) := by decide +kernel
def Q_li0m (Z : State) (v : Addr) (k : ClassId) (h0 : Heap) (rv : Option Value) (h : Heap) (L : List Loc) : Prop := rv = some (.int (-1 : Int32)) ∧ L = [] ∧ h = h0
theorem rm_li0m (l : Launch) (Z : State) (a0 : Array Value) (hw : ∀ d ∈ tables_1, d.before a0 Z = true) (v : Addr) (k : ClassId) (h0 : Heap) (O0 : Ext Z.heap h0) (Bx : AL Z h0 v k .byte (by8 [])) :
    Met1 l Z mN15 jdk_43_method_27_code 4 (some .int) ({ frames := 1, cells := 0, slots := 0, locals := 13 } : Room) #[(.ref v), (.int (64 : Int32)), (.int (-1 : Int32))] h0 (Q_li0m Z v k h0) := by
  refine Met1.of_body (Ls := #[.val (.ref v), .val (.int (64 : Int32)), .val (.int (-1 : Int32)), .unset]) pf_12 (fun m => by first | (simp [entryFrame, mkF, argsToLocals, Value.category]; done) | rfl) ?_
  intro p e s m below meth c T0 C X0 e0
  have N0 : Fr Z.heap.size [] := Fr.nil _
  refine Go.iloadN (pc' := 1) C X0 d12_0 rfl rfl ?_
  refine Go.callS (y := mN13) (pc' := 4) C X0 (tw hw 64 rfl) (tw hw 65 rfl) (by decide) (rm_ce l Z a0 hw  h0 O0 ) (tw hw 66 rfl) (tw hw 62 rfl) e0 (argsL := [(.int (64 : Int32))]) (rest := []) (W := 0) rfl rfl pd_20 rfl (Nat.le_of_eq rfl) rfl (by decide) (by decide) (by decide) (by decide) d12_1 rfl ?_
  intro T101 v101 L101 X101 q101
  obtain ⟨rfl, rfl, e101⟩ := q101
  have N101 := Fr.app N0 (Fr.nil _)
  refine Go.ifYes (pc' := 9) C X101 d12_4 ((if0 _ _).trans (feq (x := (1 : Int32)) (y := (0 : Int32)) (by decide)).2) (by decide) (by decide) ?_
  refine Go.iloadN (pc' := 10) C X101 d12_9 rfl rfl ?_
  refine Go.aloadN (pc' := 11) C X101 d12_10 rfl rfl rfl ?_
  refine Go.alen (z := (0 : Int32)) (pc' := 12) C X101 e101 Bx (by rw [by8_len]; rfl) d12_11 rfl ?_
  refine Go.iconst (z := (1 : Int32)) (pc' := 13) C X101 d12_12 rfl rfl ?_
  refine Go.isub (pc' := 14) C X101 d12_13 rfl ?_
  rw [show ((0 : Int32) - (1 : Int32)) = (-1 : Int32) from by decide]
  refine Go.callS (y := mN0) (pc' := 17) C X101 (tw hw 67 rfl) (tw hw 68 rfl) (by decide) (rm_mn l Z a0 hw ((-1 : Int32)) h0 O0 ) (tw hw 70 rfl) (tw hw 69 rfl) e101 (argsL := [(.int (-1 : Int32)), (.int (-1 : Int32))]) (rest := []) (W := 0) rfl rfl pd_17 rfl (Nat.le_of_eq rfl) rfl (by decide) (by decide) (by decide) (by decide) d12_14 rfl ?_
  intro T103 v103 L103 X103 q103
  obtain ⟨rfl, rfl, e103⟩ := q103
  have N103 := Fr.app N101 (Fr.nil _)
  refine Go.istoreN (Ls' := #[.val (.ref v), .val (.int (64 : Int32)), .val (.int (-1 : Int32)), .val (.int (-1 : Int32))]) (pc' := 18) C X103 d12_17 rfl rfl ?_
  refine Go.iloadN (pc' := 19) C X103 d12_18 rfl rfl ?_
  refine Go.ifYes (pc' := 38) C X103 d12_19 ((if0 _ _).trans (tlt (x := (-1 : Int32)) (y := (0 : Int32)) (by decide)).1) (by decide) (by decide) ?_
  refine Go.iconst (z := (-1 : Int32)) (pc' := 39) C X103 d12_38 rfl rfl ?_
  exact Go.retI C X103 rfl d12_39 (by rw [e103]; exact ⟨rfl, (by simp), rfl⟩) (by decide) (by decide)
theorem pd_21 : parseMethodDescriptor "([BII)I" = some ⟨[(.array .byte), .int, .int], some .int⟩ := by decide +kernel
theorem pf_10 : plainFor mN9 = true := plainFor_of_name (by first | (simp [plainName, overriddenIn]; done) | decide +kernel)
theorem d10_0 : decode jdk_42_method_83_code 0 = .ok (.aload_n 0, 1) := by decide +kernel
theorem d10_1 : decode jdk_42_method_83_code 1 = .ok (.invokevirtual 492, 3) := by decide +kernel
theorem d10_4 : decode jdk_42_method_83_code 4 = .ok (.ifCond .eq 15, 3) := by decide +kernel
theorem d10_7 : decode jdk_42_method_83_code 7 = .ok (.aload_n 0, 1) := by decide +kernel
theorem d10_8 : decode jdk_42_method_83_code 8 = .ok (.getfield 9, 3) := by decide +kernel
theorem d10_11 : decode jdk_42_method_83_code 11 = .ok (.iload_n 1, 1) := by decide +kernel
theorem d10_12 : decode jdk_42_method_83_code 12 = .ok (.iload_n 2, 1) := by decide +kernel
theorem d10_13 : decode jdk_42_method_83_code 13 = .ok (.invokestatic 644, 3) := by decide +kernel
theorem d10_16 : decode jdk_42_method_83_code 16 = .ok (.goto 12, 3) := by decide +kernel
theorem d10_28 : decode jdk_42_method_83_code 28 = .ok (.ireturn, 1) := by decide +kernel
def Q_lj0m (Z : State) (s1 : Addr) (v : Addr) (k : ClassId) (cP : Int32) (h0 : Heap) (rv : Option Value) (h : Heap) (L : List Loc) : Prop := rv = some (.int (-1 : Int32)) ∧ L = [] ∧ h = h0
theorem rm_lj0m (l : Launch) (Z : State) (a0 : Array Value) (hw : ∀ d ∈ tables_1, d.before a0 Z = true) (s1 : Addr) (v : Addr) (k : ClassId) (cP : Int32) (h0 : Heap) (O0 : Ext Z.heap h0) (E0 : Exa Z h0 s1 "java/lang/String") (Fv : Fld Z h0 s1 "java/lang/String" "value" "[B" (.ref v)) (Fc : Fld Z h0 s1 "java/lang/String" "coder" "B" (.int (0 : Int32))) (Bx : AL Z h0 v k .byte (by8 [])) (SC : Sta Z Z.heap "java/lang/String" "COMPACT_STRINGS" "Z" (.int cP)) (hP : ¬ cP = (0 : Int32)) :
    Met1 l Z mN9 jdk_42_method_83_code 3 (some .int) ({ frames := 2, cells := 0, slots := 0, locals := 28 } : Room) #[(.ref s1), (.int (64 : Int32)), (.int (-1 : Int32))] h0 (Q_lj0m Z s1 v k cP h0) := by
  refine Met1.of_body (Ls := #[.val (.ref s1), .val (.int (64 : Int32)), .val (.int (-1 : Int32))]) pf_10 (fun m => by first | (simp [entryFrame, mkF, argsToLocals, Value.category]; done) | rfl) ?_
  intro p e s m below meth c T0 C X0 e0
  have N0 : Fr Z.heap.size [] := Fr.nil _
  refine Go.aloadN (pc' := 1) C X0 d10_0 rfl rfl rfl ?_
  refine Go.callV (y := mN7) (z := mN7) (a := s1) (pc' := 4) C X0 (tw hw 55 rfl) (tw hw 56 rfl) (notFace_at C.2.1 (tw hw 58 rfl)) (tw hw 58 rfl) (tw hw 57 rfl) E0 (by decide) (rm_isL l Z a0 hw s1 cP h0 O0 Fc SC hP) (tw hw 59 rfl) (tw hw 11 rfl) e0 (argsL := []) (rest := []) (W := 0) rfl rfl pd_13 rfl (Nat.le_of_eq rfl) rfl (by decide) (by decide) (by decide) (by decide) d10_1 rfl ?_
  intro T101 v101 L101 X101 q101
  obtain ⟨rfl, rfl, e101⟩ := q101
  have N101 := Fr.app N0 (Fr.nil _)
  refine Go.ifNo (pc' := 7) C X101 d10_4 ((if0 _ _).trans (feq (x := (1 : Int32)) (y := (0 : Int32)) (by decide)).1) rfl ?_
  refine Go.aloadN (pc' := 8) C X101 d10_7 rfl rfl rfl ?_
  refine Go.getF (pc' := 11) (host := "") C X101 (Or.inl (tw hw 28 rfl)) Via.refl e101 Fv d10_8 rfl ?_
  intro T103 X103 e103
  refine Go.iloadN (pc' := 12) C X103 d10_11 rfl rfl ?_
  refine Go.iloadN (pc' := 13) C X103 d10_12 rfl rfl ?_
  refine Go.callS (y := mN15) (pc' := 16) C X103 (tw hw 60 rfl) (tw hw 61 rfl) (by decide) (rm_li0m l Z a0 hw v k h0 O0 Bx) (tw hw 63 rfl) (tw hw 62 rfl) e103 (argsL := [(.ref v), (.int (64 : Int32)), (.int (-1 : Int32))]) (rest := []) (W := 0) rfl rfl pd_21 rfl (Nat.le_of_eq rfl) rfl (by decide) (by decide) (by decide) (by decide) d10_13 rfl ?_
  intro T104 v104 L104 X104 q104
  obtain ⟨rfl, rfl, e104⟩ := q104
  have N104 := Fr.app N101 (Fr.nil _)
  refine Go.goto (pc' := 28) C X104 d10_16 (by decide) (by decide) ?_
  exact Go.retI C X104 rfl d10_28 (by rw [e104]; exact ⟨rfl, (by simp), rfl⟩) (by decide) (by decide)
theorem pf_7 : plainFor mN8 = true := plainFor_of_name (by first | (simp [plainName, overriddenIn]; done) | decide +kernel)
theorem d7_0 : decode jdk_42_method_82_code 0 = .ok (.aload_n 0, 1) := by decide +kernel
theorem d7_1 : decode jdk_42_method_82_code 1 = .ok (.iload_n 1, 1) := by decide +kernel
theorem d7_2 : decode jdk_42_method_82_code 2 = .ok (.aload_n 0, 1) := by decide +kernel
theorem d7_3 : decode jdk_42_method_82_code 3 = .ok (.invokevirtual 505, 3) := by decide +kernel
theorem d7_6 : decode jdk_42_method_82_code 6 = .ok (.iconst 1, 1) := by decide +kernel
theorem d7_7 : decode jdk_42_method_82_code 7 = .ok (.isub, 1) := by decide +kernel
theorem d7_8 : decode jdk_42_method_82_code 8 = .ok (.invokevirtual 641, 3) := by decide +kernel
theorem d7_11 : decode jdk_42_method_82_code 11 = .ok (.ireturn, 1) := by decide +kernel
def Q_lk0m (Z : State) (s1 : Addr) (v : Addr) (k : ClassId) (cP : Int32) (h0 : Heap) (rv : Option Value) (h : Heap) (L : List Loc) : Prop := rv = some (.int (-1 : Int32)) ∧ L = [] ∧ h = h0
theorem rm_lk0m (l : Launch) (Z : State) (a0 : Array Value) (hw : ∀ d ∈ tables_1, d.before a0 Z = true) (s1 : Addr) (v : Addr) (k : ClassId) (cP : Int32) (h0 : Heap) (O0 : Ext Z.heap h0) (E0 : Exa Z h0 s1 "java/lang/String") (Fv : Fld Z h0 s1 "java/lang/String" "value" "[B" (.ref v)) (Fc : Fld Z h0 s1 "java/lang/String" "coder" "B" (.int (0 : Int32))) (Bx : AL Z h0 v k .byte (by8 [])) (SC : Sta Z Z.heap "java/lang/String" "COMPACT_STRINGS" "Z" (.int cP)) (hP : ¬ cP = (0 : Int32)) :
    Met1 l Z mN8 jdk_42_method_82_code 2 (some .int) ({ frames := 3, cells := 0, slots := 0, locals := 42 } : Room) #[(.ref s1), (.int (64 : Int32))] h0 (Q_lk0m Z s1 v k cP h0) := by
  refine Met1.of_body (Ls := #[.val (.ref s1), .val (.int (64 : Int32))]) pf_7 (fun m => by first | (simp [entryFrame, mkF, argsToLocals, Value.category]; done) | rfl) ?_
  intro p e s m below meth c T0 C X0 e0
  have N0 : Fr Z.heap.size [] := Fr.nil _
  refine Go.aloadN (pc' := 1) C X0 d7_0 rfl rfl rfl ?_
  refine Go.iloadN (pc' := 2) C X0 d7_1 rfl rfl ?_
  refine Go.aloadN (pc' := 3) C X0 d7_2 rfl rfl rfl ?_
  refine Go.callV (y := mN10) (z := mN10) (a := s1) (pc' := 6) C X0 (tw hw 39 rfl) (tw hw 40 rfl) (notFace_at C.2.1 (tw hw 42 rfl)) (tw hw 42 rfl) (tw hw 41 rfl) E0 (by decide) (rm_len l Z a0 hw s1 v k [] cP ((0 : Int32)) h0 O0 E0 Fv Fc Bx SC hP rfl) (tw hw 43 rfl) (tw hw 11 rfl) e0 (argsL := []) (rest := [(.int (64 : Int32)), (.ref s1)]) (W := 2) rfl rfl pd_11 rfl (Nat.le_of_eq rfl) rfl (by decide) (by decide) (by decide) (by decide) d7_3 rfl ?_
  intro T101 v101 L101 X101 q101
  obtain ⟨rfl, rfl, e101⟩ := q101
  have N101 := Fr.app N0 (Fr.nil _)
  refine Go.iconst (z := (1 : Int32)) (pc' := 7) C X101 d7_6 rfl rfl ?_
  refine Go.isub (pc' := 8) C X101 d7_7 rfl ?_
  rw [show ((0 : Int32) - (1 : Int32)) = (-1 : Int32) from by decide]
  refine Go.callV (y := mN9) (z := mN9) (a := s1) (pc' := 11) C X101 (tw hw 50 rfl) (tw hw 51 rfl) (notFace_at C.2.1 (tw hw 53 rfl)) (tw hw 53 rfl) (tw hw 52 rfl) E0 (by decide) (rm_lj0m l Z a0 hw s1 v k cP h0 O0 E0 Fv Fc Bx SC hP) (tw hw 54 rfl) (tw hw 11 rfl) e101 (argsL := [(.int (64 : Int32)), (.int (-1 : Int32))]) (rest := []) (W := 0) rfl rfl pd_17 rfl (Nat.le_of_eq rfl) rfl (by decide) (by decide) (by decide) (by decide) d7_8 rfl ?_
  intro T102 v102 L102 X102 q102
  obtain ⟨rfl, rfl, e102⟩ := q102
  have N102 := Fr.app N101 (Fr.nil _)
  exact Go.retI C X102 rfl d7_11 (by rw [e102]; exact ⟨rfl, (by simp), rfl⟩) (by decide) (by decide)
theorem pd_22 : parseMethodDescriptor "(I)I" = some ⟨[.int], some .int⟩ := by decide +kernel
theorem pd_23 : parseMethodDescriptor "()Ljava/util/Optional;" = some ⟨[], some (.object "java/util/Optional")⟩ := by decide +kernel
theorem pf_6 : plainFor mN30 = true := plainFor_of_name (by first | (simp [plainName, overriddenIn]; done) | decide +kernel)
theorem d6_0 : decode prog_20_method_8_code 0 = .ok (.aload_n 0, 1) := by decide +kernel
theorem d6_1 : decode prog_20_method_8_code 1 = .ok (.bipush 64, 2) := by decide +kernel
theorem d6_3 : decode prog_20_method_8_code 3 = .ok (.invokevirtual 157, 3) := by decide +kernel
theorem d6_6 : decode prog_20_method_8_code 6 = .ok (.istore_n 1, 1) := by decide +kernel
theorem d6_7 : decode prog_20_method_8_code 7 = .ok (.iload_n 1, 1) := by decide +kernel
theorem d6_8 : decode prog_20_method_8_code 8 = .ok (.ifCond .ge 9, 3) := by decide +kernel
theorem d6_11 : decode prog_20_method_8_code 11 = .ok (.invokestatic 163, 3) := by decide +kernel
theorem d6_14 : decode prog_20_method_8_code 14 = .ok (.goto 13, 3) := by decide +kernel
theorem d6_27 : decode prog_20_method_8_code 27 = .ok (.areturn, 1) := by decide +kernel
def Q_sc0m (Z : State) (s1 : Addr) (v : Addr) (k : ClassId) (cP : Int32) (em : Addr) (h0 : Heap) (rv : Option Value) (h : Heap) (L : List Loc) : Prop := rv = some (.ref em) ∧ L = [] ∧ h = h0
theorem rm_sc0m (l : Launch) (Z : State) (a0 : Array Value) (hw : ∀ d ∈ tables_1, d.before a0 Z = true) (s1 : Addr) (v : Addr) (k : ClassId) (cP : Int32) (em : Addr) (h0 : Heap) (O0 : Ext Z.heap h0) (E0 : Exa Z h0 s1 "java/lang/String") (Fv : Fld Z h0 s1 "java/lang/String" "value" "[B" (.ref v)) (Fc : Fld Z h0 s1 "java/lang/String" "coder" "B" (.int (0 : Int32))) (Bx : AL Z h0 v k .byte (by8 [])) (SC : Sta Z Z.heap "java/lang/String" "COMPACT_STRINGS" "Z" (.int cP)) (SE : Sta Z Z.heap "java/util/Optional" "EMPTY" "Ljava/util/Optional;" (.ref em)) (hP : ¬ cP = (0 : Int32)) :
    Met1 l Z mN30 prog_20_method_8_code 2 (some (.object "java/util/Optional")) ({ frames := 4, cells := 0, slots := 0, locals := 55 } : Room) #[(.ref s1)] h0 (Q_sc0m Z s1 v k cP em h0) := by
  refine Met1.of_body (Ls := #[.val (.ref s1), .unset]) pf_6 (fun m => by first | (simp [entryFrame, mkF, argsToLocals, Value.category]; done) | rfl) ?_
  intro p e s m below meth c T0 C X0 e0
  have N0 : Fr Z.heap.size [] := Fr.nil _
  refine Go.aloadN (pc' := 1) C X0 d6_0 rfl rfl rfl ?_
  refine Go.bipush (z := (64 : Int32)) (pc' := 3) C X0 d6_1 rfl rfl ?_
  refine Go.callV (y := mN8) (z := mN8) (a := s1) (pc' := 6) C X0 (tw hw 34 rfl) (tw hw 35 rfl) (notFace_at C.2.1 (tw hw 37 rfl)) (tw hw 37 rfl) (tw hw 36 rfl) E0 (by decide) (rm_lk0m l Z a0 hw s1 v k cP h0 O0 E0 Fv Fc Bx SC hP) (tw hw 38 rfl) (tw hw 11 rfl) e0 (argsL := [(.int (64 : Int32))]) (rest := []) (W := 0) rfl rfl pd_22 rfl (Nat.le_of_eq rfl) rfl (by decide) (by decide) (by decide) (by decide) d6_3 rfl ?_
  intro T101 v101 L101 X101 q101
  obtain ⟨rfl, rfl, e101⟩ := q101
  have N101 := Fr.app N0 (Fr.nil _)
  refine Go.istoreN (Ls' := #[.val (.ref s1), .val (.int (-1 : Int32))]) (pc' := 7) C X101 d6_6 rfl rfl ?_
  refine Go.iloadN (pc' := 8) C X101 d6_7 rfl rfl ?_
  refine Go.ifNo (pc' := 11) C X101 d6_8 ((if0 _ _).trans (tlt (x := (-1 : Int32)) (y := (0 : Int32)) (by decide)).2.1) rfl ?_
  refine Go.callS (y := mN25) (pc' := 14) C X101 (tw hw 71 rfl) (tw hw 72 rfl) (by decide) (rm_oem l Z a0 hw em h0 O0 SE) (tw hw 74 rfl) (tw hw 73 rfl) e101 (argsL := []) (rest := []) (W := 0) rfl rfl pd_23 rfl (Nat.le_of_eq rfl) rfl (by decide) (by decide) (by decide) (by decide) d6_11 rfl ?_
  intro T103 v103 L103 X103 q103
  obtain ⟨rfl, rfl, e103⟩ := q103
  have N103 := Fr.app N101 (Fr.nil _)
  refine Go.goto (pc' := 27) C X103 d6_14 (by decide) (by decide) ?_
  exact Go.retA C X103 rfl d6_27 rfl rfl rfl (by rw [e103]; exact ⟨rfl, (by simp), rfl⟩) (by decide) (by decide)
theorem d12_22 : decode jdk_43_method_27_code 22 = .ok (.aload_n 0, 1) := by decide +kernel
theorem d12_23 : decode jdk_43_method_27_code 23 = .ok (.iload_n 3, 1) := by decide +kernel
theorem d12_24 : decode jdk_43_method_27_code 24 = .ok (.baload, 1) := by decide +kernel
theorem d12_25 : decode jdk_43_method_27_code 25 = .ok (.iload_n 1, 1) := by decide +kernel
theorem d12_26 : decode jdk_43_method_27_code 26 = .ok (.i2b, 1) := by decide +kernel
theorem d12_27 : decode jdk_43_method_27_code 27 = .ok (.if_icmp .ne 5, 3) := by decide +kernel
theorem d12_32 : decode jdk_43_method_27_code 32 = .ok (.iinc 3 (-1), 3) := by decide +kernel
theorem d12_35 : decode jdk_43_method_27_code 35 = .ok (.goto (-17), 3) := by decide +kernel
def Q_li1m (Z : State) (v : Addr) (k : ClassId) (x0 : Int32) (h0 : Heap) (rv : Option Value) (h : Heap) (L : List Loc) : Prop := rv = some (.int (-1 : Int32)) ∧ L = [] ∧ h = h0
theorem rm_li1m (l : Launch) (Z : State) (a0 : Array Value) (hw : ∀ d ∈ tables_1, d.before a0 Z = true) (v : Addr) (k : ClassId) (x0 : Int32) (h0 : Heap) (O0 : Ext Z.heap h0) (Bx : AL Z h0 v k .byte (by8 [x0])) (hx0 : 0 ≤ x0.toInt ∧ x0.toInt ≤ 255) (qe0 : ¬ x0 = (64 : Int32)) :
    Met1 l Z mN15 jdk_43_method_27_code 4 (some .int) ({ frames := 1, cells := 0, slots := 0, locals := 13 } : Room) #[(.ref v), (.int (64 : Int32)), (.int (0 : Int32))] h0 (Q_li1m Z v k x0 h0) := by
  refine Met1.of_body (Ls := #[.val (.ref v), .val (.int (64 : Int32)), .val (.int (0 : Int32)), .unset]) pf_12 (fun m => by first | (simp [entryFrame, mkF, argsToLocals, Value.category]; done) | rfl) ?_
  intro p e s m below meth c T0 C X0 e0
  have N0 : Fr Z.heap.size [] := Fr.nil _
  refine Go.iloadN (pc' := 1) C X0 d12_0 rfl rfl ?_
  refine Go.callS (y := mN13) (pc' := 4) C X0 (tw hw 64 rfl) (tw hw 65 rfl) (by decide) (rm_ce l Z a0 hw  h0 O0 ) (tw hw 66 rfl) (tw hw 62 rfl) e0 (argsL := [(.int (64 : Int32))]) (rest := []) (W := 0) rfl rfl pd_20 rfl (Nat.le_of_eq rfl) rfl (by decide) (by decide) (by decide) (by decide) d12_1 rfl ?_
  intro T101 v101 L101 X101 q101
  obtain ⟨rfl, rfl, e101⟩ := q101
  have N101 := Fr.app N0 (Fr.nil _)
  refine Go.ifYes (pc' := 9) C X101 d12_4 ((if0 _ _).trans (feq (x := (1 : Int32)) (y := (0 : Int32)) (by decide)).2) (by decide) (by decide) ?_
  refine Go.iloadN (pc' := 10) C X101 d12_9 rfl rfl ?_
  refine Go.aloadN (pc' := 11) C X101 d12_10 rfl rfl rfl ?_
  refine Go.alen (z := (1 : Int32)) (pc' := 12) C X101 e101 Bx (by rw [by8_len]; rfl) d12_11 rfl ?_
  refine Go.iconst (z := (1 : Int32)) (pc' := 13) C X101 d12_12 rfl rfl ?_
  refine Go.isub (pc' := 14) C X101 d12_13 rfl ?_
  rw [show ((1 : Int32) - (1 : Int32)) = (0 : Int32) from by decide]
  refine Go.callS (y := mN0) (pc' := 17) C X101 (tw hw 67 rfl) (tw hw 68 rfl) (by decide) (rm_mn l Z a0 hw ((0 : Int32)) h0 O0 ) (tw hw 70 rfl) (tw hw 69 rfl) e101 (argsL := [(.int (0 : Int32)), (.int (0 : Int32))]) (rest := []) (W := 0) rfl rfl pd_17 rfl (Nat.le_of_eq rfl) rfl (by decide) (by decide) (by decide) (by decide) d12_14 rfl ?_
  intro T103 v103 L103 X103 q103
  obtain ⟨rfl, rfl, e103⟩ := q103
  have N103 := Fr.app N101 (Fr.nil _)
  refine Go.istoreN (Ls' := #[.val (.ref v), .val (.int (64 : Int32)), .val (.int (0 : Int32)), .val (.int (0 : Int32))]) (pc' := 18) C X103 d12_17 rfl rfl ?_
  refine Go.iloadN (pc' := 19) C X103 d12_18 rfl rfl ?_
  refine Go.ifNo (pc' := 22) C X103 d12_19 ((if0 _ _).trans (flt (x := (0 : Int32)) (y := (0 : Int32)) (by decide)).1) rfl ?_
  refine Go.aloadN (pc' := 23) C X103 d12_22 rfl rfl rfl ?_
  refine Go.iloadN (pc' := 24) C X103 d12_23 rfl rfl ?_
  refine Go.ldB (i := 0) (v := (.int x0.toInt8.toInt32)) (pc' := 25) C X103 e103 Bx (by decide) (by decide) (by8_get rfl) d12_24 rfl ?_
  refine Go.iloadN (pc' := 26) C X103 d12_25 rfl rfl ?_
  refine Go.i2b (pc' := 27) C X103 d12_26 rfl ?_
  refine Go.icmpYes (pc' := 32) C X103 d12_27 (feq (x := x0.toInt8.toInt32) (y := ((64 : Int32).toInt8.toInt32)) (fun q => qe0 ((b64 hx0).mp q))).2 (by decide) (by decide) ?_
  refine Go.iinc (Ls' := #[.val (.ref v), .val (.int (64 : Int32)), .val (.int (0 : Int32)), .val (.int ((0 : Int32) + (-1 : Int32)))]) (z := (-1 : Int32)) (pc' := 35) C X103 d12_32 rfl rfl rfl rfl ?_
  rw [show ((0 : Int32) + (-1 : Int32)) = (-1 : Int32) from by decide]
  refine Go.goto (pc' := 18) C X103 d12_35 (by decide) (by decide) ?_
  refine Go.iloadN (pc' := 19) C X103 d12_18 rfl rfl ?_
  refine Go.ifYes (pc' := 38) C X103 d12_19 ((if0 _ _).trans (tlt (x := (-1 : Int32)) (y := (0 : Int32)) (by decide)).1) (by decide) (by decide) ?_
  refine Go.iconst (z := (-1 : Int32)) (pc' := 39) C X103 d12_38 rfl rfl ?_
  exact Go.retI C X103 rfl d12_39 (by rw [e103]; exact ⟨rfl, (by simp), rfl⟩) (by decide) (by decide)
def Q_lj1m (Z : State) (s1 : Addr) (v : Addr) (k : ClassId) (x0 : Int32) (cP : Int32) (h0 : Heap) (rv : Option Value) (h : Heap) (L : List Loc) : Prop := rv = some (.int (-1 : Int32)) ∧ L = [] ∧ h = h0
theorem rm_lj1m (l : Launch) (Z : State) (a0 : Array Value) (hw : ∀ d ∈ tables_1, d.before a0 Z = true) (s1 : Addr) (v : Addr) (k : ClassId) (x0 : Int32) (cP : Int32) (h0 : Heap) (O0 : Ext Z.heap h0) (E0 : Exa Z h0 s1 "java/lang/String") (Fv : Fld Z h0 s1 "java/lang/String" "value" "[B" (.ref v)) (Fc : Fld Z h0 s1 "java/lang/String" "coder" "B" (.int (0 : Int32))) (Bx : AL Z h0 v k .byte (by8 [x0])) (SC : Sta Z Z.heap "java/lang/String" "COMPACT_STRINGS" "Z" (.int cP)) (hx0 : 0 ≤ x0.toInt ∧ x0.toInt ≤ 255) (qe0 : ¬ x0 = (64 : Int32)) (hP : ¬ cP = (0 : Int32)) :
    Met1 l Z mN9 jdk_42_method_83_code 3 (some .int) ({ frames := 2, cells := 0, slots := 0, locals := 28 } : Room) #[(.ref s1), (.int (64 : Int32)), (.int (0 : Int32))] h0 (Q_lj1m Z s1 v k x0 cP h0) := by
  refine Met1.of_body (Ls := #[.val (.ref s1), .val (.int (64 : Int32)), .val (.int (0 : Int32))]) pf_10 (fun m => by first | (simp [entryFrame, mkF, argsToLocals, Value.category]; done) | rfl) ?_
  intro p e s m below meth c T0 C X0 e0
  have N0 : Fr Z.heap.size [] := Fr.nil _
  refine Go.aloadN (pc' := 1) C X0 d10_0 rfl rfl rfl ?_
  refine Go.callV (y := mN7) (z := mN7) (a := s1) (pc' := 4) C X0 (tw hw 55 rfl) (tw hw 56 rfl) (notFace_at C.2.1 (tw hw 58 rfl)) (tw hw 58 rfl) (tw hw 57 rfl) E0 (by decide) (rm_isL l Z a0 hw s1 cP h0 O0 Fc SC hP) (tw hw 59 rfl) (tw hw 11 rfl) e0 (argsL := []) (rest := []) (W := 0) rfl rfl pd_13 rfl (Nat.le_of_eq rfl) rfl (by decide) (by decide) (by decide) (by decide) d10_1 rfl ?_
  intro T101 v101 L101 X101 q101
  obtain ⟨rfl, rfl, e101⟩ := q101
  have N101 := Fr.app N0 (Fr.nil _)
  refine Go.ifNo (pc' := 7) C X101 d10_4 ((if0 _ _).trans (feq (x := (1 : Int32)) (y := (0 : Int32)) (by decide)).1) rfl ?_
  refine Go.aloadN (pc' := 8) C X101 d10_7 rfl rfl rfl ?_
  refine Go.getF (pc' := 11) (host := "") C X101 (Or.inl (tw hw 28 rfl)) Via.refl e101 Fv d10_8 rfl ?_
  intro T103 X103 e103
  refine Go.iloadN (pc' := 12) C X103 d10_11 rfl rfl ?_
  refine Go.iloadN (pc' := 13) C X103 d10_12 rfl rfl ?_
  refine Go.callS (y := mN15) (pc' := 16) C X103 (tw hw 60 rfl) (tw hw 61 rfl) (by decide) (rm_li1m l Z a0 hw v k x0 h0 O0 Bx hx0 qe0) (tw hw 63 rfl) (tw hw 62 rfl) e103 (argsL := [(.ref v), (.int (64 : Int32)), (.int (0 : Int32))]) (rest := []) (W := 0) rfl rfl pd_21 rfl (Nat.le_of_eq rfl) rfl (by decide) (by decide) (by decide) (by decide) d10_13 rfl ?_
  intro T104 v104 L104 X104 q104
  obtain ⟨rfl, rfl, e104⟩ := q104
  have N104 := Fr.app N101 (Fr.nil _)
  refine Go.goto (pc' := 28) C X104 d10_16 (by decide) (by decide) ?_
  exact Go.retI C X104 rfl d10_28 (by rw [e104]; exact ⟨rfl, (by simp), rfl⟩) (by decide) (by decide)
def Q_lk1m (Z : State) (s1 : Addr) (v : Addr) (k : ClassId) (x0 : Int32) (cP : Int32) (h0 : Heap) (rv : Option Value) (h : Heap) (L : List Loc) : Prop := rv = some (.int (-1 : Int32)) ∧ L = [] ∧ h = h0
theorem rm_lk1m (l : Launch) (Z : State) (a0 : Array Value) (hw : ∀ d ∈ tables_1, d.before a0 Z = true) (s1 : Addr) (v : Addr) (k : ClassId) (x0 : Int32) (cP : Int32) (h0 : Heap) (O0 : Ext Z.heap h0) (E0 : Exa Z h0 s1 "java/lang/String") (Fv : Fld Z h0 s1 "java/lang/String" "value" "[B" (.ref v)) (Fc : Fld Z h0 s1 "java/lang/String" "coder" "B" (.int (0 : Int32))) (Bx : AL Z h0 v k .byte (by8 [x0])) (SC : Sta Z Z.heap "java/lang/String" "COMPACT_STRINGS" "Z" (.int cP)) (hx0 : 0 ≤ x0.toInt ∧ x0.toInt ≤ 255) (qe0 : ¬ x0 = (64 : Int32)) (hP : ¬ cP = (0 : Int32)) :
    Met1 l Z mN8 jdk_42_method_82_code 2 (some .int) ({ frames := 3, cells := 0, slots := 0, locals := 42 } : Room) #[(.ref s1), (.int (64 : Int32))] h0 (Q_lk1m Z s1 v k x0 cP h0) := by
  refine Met1.of_body (Ls := #[.val (.ref s1), .val (.int (64 : Int32))]) pf_7 (fun m => by first | (simp [entryFrame, mkF, argsToLocals, Value.category]; done) | rfl) ?_
  intro p e s m below meth c T0 C X0 e0
  have N0 : Fr Z.heap.size [] := Fr.nil _
  refine Go.aloadN (pc' := 1) C X0 d7_0 rfl rfl rfl ?_
  refine Go.iloadN (pc' := 2) C X0 d7_1 rfl rfl ?_
  refine Go.aloadN (pc' := 3) C X0 d7_2 rfl rfl rfl ?_
  refine Go.callV (y := mN10) (z := mN10) (a := s1) (pc' := 6) C X0 (tw hw 39 rfl) (tw hw 40 rfl) (notFace_at C.2.1 (tw hw 42 rfl)) (tw hw 42 rfl) (tw hw 41 rfl) E0 (by decide) (rm_len l Z a0 hw s1 v k [x0] cP ((1 : Int32)) h0 O0 E0 Fv Fc Bx SC hP rfl) (tw hw 43 rfl) (tw hw 11 rfl) e0 (argsL := []) (rest := [(.int (64 : Int32)), (.ref s1)]) (W := 2) rfl rfl pd_11 rfl (Nat.le_of_eq rfl) rfl (by decide) (by decide) (by decide) (by decide) d7_3 rfl ?_
  intro T101 v101 L101 X101 q101
  obtain ⟨rfl, rfl, e101⟩ := q101
  have N101 := Fr.app N0 (Fr.nil _)
  refine Go.iconst (z := (1 : Int32)) (pc' := 7) C X101 d7_6 rfl rfl ?_
  refine Go.isub (pc' := 8) C X101 d7_7 rfl ?_
  rw [show ((1 : Int32) - (1 : Int32)) = (0 : Int32) from by decide]
  refine Go.callV (y := mN9) (z := mN9) (a := s1) (pc' := 11) C X101 (tw hw 50 rfl) (tw hw 51 rfl) (notFace_at C.2.1 (tw hw 53 rfl)) (tw hw 53 rfl) (tw hw 52 rfl) E0 (by decide) (rm_lj1m l Z a0 hw s1 v k x0 cP h0 O0 E0 Fv Fc Bx SC hx0 qe0 hP) (tw hw 54 rfl) (tw hw 11 rfl) e101 (argsL := [(.int (64 : Int32)), (.int (0 : Int32))]) (rest := []) (W := 0) rfl rfl pd_17 rfl (Nat.le_of_eq rfl) rfl (by decide) (by decide) (by decide) (by decide) d7_8 rfl ?_
  intro T102 v102 L102 X102 q102
  obtain ⟨rfl, rfl, e102⟩ := q102
  have N102 := Fr.app N101 (Fr.nil _)
  exact Go.retI C X102 rfl d7_11 (by rw [e102]; exact ⟨rfl, (by simp), rfl⟩) (by decide) (by decide)
def Q_sc1m (Z : State) (s1 : Addr) (v : Addr) (k : ClassId) (x0 : Int32) (cP : Int32) (em : Addr) (h0 : Heap) (rv : Option Value) (h : Heap) (L : List Loc) : Prop := rv = some (.ref em) ∧ L = [] ∧ h = h0
theorem rm_sc1m (l : Launch) (Z : State) (a0 : Array Value) (hw : ∀ d ∈ tables_1, d.before a0 Z = true) (s1 : Addr) (v : Addr) (k : ClassId) (x0 : Int32) (cP : Int32) (em : Addr) (h0 : Heap) (O0 : Ext Z.heap h0) (E0 : Exa Z h0 s1 "java/lang/String") (Fv : Fld Z h0 s1 "java/lang/String" "value" "[B" (.ref v)) (Fc : Fld Z h0 s1 "java/lang/String" "coder" "B" (.int (0 : Int32))) (Bx : AL Z h0 v k .byte (by8 [x0])) (SC : Sta Z Z.heap "java/lang/String" "COMPACT_STRINGS" "Z" (.int cP)) (SE : Sta Z Z.heap "java/util/Optional" "EMPTY" "Ljava/util/Optional;" (.ref em)) (hx0 : 0 ≤ x0.toInt ∧ x0.toInt ≤ 255) (qe0 : ¬ x0 = (64 : Int32)) (hP : ¬ cP = (0 : Int32)) :
    Met1 l Z mN30 prog_20_method_8_code 2 (some (.object "java/util/Optional")) ({ frames := 4, cells := 0, slots := 0, locals := 55 } : Room) #[(.ref s1)] h0 (Q_sc1m Z s1 v k x0 cP em h0) := by
  refine Met1.of_body (Ls := #[.val (.ref s1), .unset]) pf_6 (fun m => by first | (simp [entryFrame, mkF, argsToLocals, Value.category]; done) | rfl) ?_
  intro p e s m below meth c T0 C X0 e0
  have N0 : Fr Z.heap.size [] := Fr.nil _
  refine Go.aloadN (pc' := 1) C X0 d6_0 rfl rfl rfl ?_
  refine Go.bipush (z := (64 : Int32)) (pc' := 3) C X0 d6_1 rfl rfl ?_
  refine Go.callV (y := mN8) (z := mN8) (a := s1) (pc' := 6) C X0 (tw hw 34 rfl) (tw hw 35 rfl) (notFace_at C.2.1 (tw hw 37 rfl)) (tw hw 37 rfl) (tw hw 36 rfl) E0 (by decide) (rm_lk1m l Z a0 hw s1 v k x0 cP h0 O0 E0 Fv Fc Bx SC hx0 qe0 hP) (tw hw 38 rfl) (tw hw 11 rfl) e0 (argsL := [(.int (64 : Int32))]) (rest := []) (W := 0) rfl rfl pd_22 rfl (Nat.le_of_eq rfl) rfl (by decide) (by decide) (by decide) (by decide) d6_3 rfl ?_
  intro T101 v101 L101 X101 q101
  obtain ⟨rfl, rfl, e101⟩ := q101
  have N101 := Fr.app N0 (Fr.nil _)
  refine Go.istoreN (Ls' := #[.val (.ref s1), .val (.int (-1 : Int32))]) (pc' := 7) C X101 d6_6 rfl rfl ?_
  refine Go.iloadN (pc' := 8) C X101 d6_7 rfl rfl ?_
  refine Go.ifNo (pc' := 11) C X101 d6_8 ((if0 _ _).trans (tlt (x := (-1 : Int32)) (y := (0 : Int32)) (by decide)).2.1) rfl ?_
  refine Go.callS (y := mN25) (pc' := 14) C X101 (tw hw 71 rfl) (tw hw 72 rfl) (by decide) (rm_oem l Z a0 hw em h0 O0 SE) (tw hw 74 rfl) (tw hw 73 rfl) e101 (argsL := []) (rest := []) (W := 0) rfl rfl pd_23 rfl (Nat.le_of_eq rfl) rfl (by decide) (by decide) (by decide) (by decide) d6_11 rfl ?_
  intro T103 v103 L103 X103 q103
  obtain ⟨rfl, rfl, e103⟩ := q103
  have N103 := Fr.app N101 (Fr.nil _)
  refine Go.goto (pc' := 27) C X103 d6_14 (by decide) (by decide) ?_
  exact Go.retA C X103 rfl d6_27 rfl rfl rfl (by rw [e103]; exact ⟨rfl, (by simp), rfl⟩) (by decide) (by decide)
theorem d12_30 : decode jdk_43_method_27_code 30 = .ok (.iload_n 3, 1) := by decide +kernel
theorem d12_31 : decode jdk_43_method_27_code 31 = .ok (.ireturn, 1) := by decide +kernel
def Q_li10 (Z : State) (v : Addr) (k : ClassId) (x0 : Int32) (h0 : Heap) (rv : Option Value) (h : Heap) (L : List Loc) : Prop := rv = some (.int (0 : Int32)) ∧ L = [] ∧ h = h0
theorem rm_li10 (l : Launch) (Z : State) (a0 : Array Value) (hw : ∀ d ∈ tables_1, d.before a0 Z = true) (v : Addr) (k : ClassId) (x0 : Int32) (h0 : Heap) (O0 : Ext Z.heap h0) (Bx : AL Z h0 v k .byte (by8 [x0])) (hx0 : 0 ≤ x0.toInt ∧ x0.toInt ≤ 255) (qe0 : x0 = (64 : Int32)) :
    Met1 l Z mN15 jdk_43_method_27_code 4 (some .int) ({ frames := 1, cells := 0, slots := 0, locals := 13 } : Room) #[(.ref v), (.int (64 : Int32)), (.int (0 : Int32))] h0 (Q_li10 Z v k x0 h0) := by
  refine Met1.of_body (Ls := #[.val (.ref v), .val (.int (64 : Int32)), .val (.int (0 : Int32)), .unset]) pf_12 (fun m => by first | (simp [entryFrame, mkF, argsToLocals, Value.category]; done) | rfl) ?_
  intro p e s m below meth c T0 C X0 e0
  have N0 : Fr Z.heap.size [] := Fr.nil _
  refine Go.iloadN (pc' := 1) C X0 d12_0 rfl rfl ?_
  refine Go.callS (y := mN13) (pc' := 4) C X0 (tw hw 64 rfl) (tw hw 65 rfl) (by decide) (rm_ce l Z a0 hw  h0 O0 ) (tw hw 66 rfl) (tw hw 62 rfl) e0 (argsL := [(.int (64 : Int32))]) (rest := []) (W := 0) rfl rfl pd_20 rfl (Nat.le_of_eq rfl) rfl (by decide) (by decide) (by decide) (by decide) d12_1 rfl ?_
  intro T101 v101 L101 X101 q101
  obtain ⟨rfl, rfl, e101⟩ := q101
  have N101 := Fr.app N0 (Fr.nil _)
  refine Go.ifYes (pc' := 9) C X101 d12_4 ((if0 _ _).trans (feq (x := (1 : Int32)) (y := (0 : Int32)) (by decide)).2) (by decide) (by decide) ?_
  refine Go.iloadN (pc' := 10) C X101 d12_9 rfl rfl ?_
  refine Go.aloadN (pc' := 11) C X101 d12_10 rfl rfl rfl ?_
  refine Go.alen (z := (1 : Int32)) (pc' := 12) C X101 e101 Bx (by rw [by8_len]; rfl) d12_11 rfl ?_
  refine Go.iconst (z := (1 : Int32)) (pc' := 13) C X101 d12_12 rfl rfl ?_
  refine Go.isub (pc' := 14) C X101 d12_13 rfl ?_
  rw [show ((1 : Int32) - (1 : Int32)) = (0 : Int32) from by decide]
  refine Go.callS (y := mN0) (pc' := 17) C X101 (tw hw 67 rfl) (tw hw 68 rfl) (by decide) (rm_mn l Z a0 hw ((0 : Int32)) h0 O0 ) (tw hw 70 rfl) (tw hw 69 rfl) e101 (argsL := [(.int (0 : Int32)), (.int (0 : Int32))]) (rest := []) (W := 0) rfl rfl pd_17 rfl (Nat.le_of_eq rfl) rfl (by decide) (by decide) (by decide) (by decide) d12_14 rfl ?_
  intro T103 v103 L103 X103 q103
  obtain ⟨rfl, rfl, e103⟩ := q103
  have N103 := Fr.app N101 (Fr.nil _)
  refine Go.istoreN (Ls' := #[.val (.ref v), .val (.int (64 : Int32)), .val (.int (0 : Int32)), .val (.int (0 : Int32))]) (pc' := 18) C X103 d12_17 rfl rfl ?_
  refine Go.iloadN (pc' := 19) C X103 d12_18 rfl rfl ?_
  refine Go.ifNo (pc' := 22) C X103 d12_19 ((if0 _ _).trans (flt (x := (0 : Int32)) (y := (0 : Int32)) (by decide)).1) rfl ?_
  refine Go.aloadN (pc' := 23) C X103 d12_22 rfl rfl rfl ?_
  refine Go.iloadN (pc' := 24) C X103 d12_23 rfl rfl ?_
  refine Go.ldB (i := 0) (v := (.int x0.toInt8.toInt32)) (pc' := 25) C X103 e103 Bx (by decide) (by decide) (by8_get rfl) d12_24 rfl ?_
  refine Go.iloadN (pc' := 26) C X103 d12_25 rfl rfl ?_
  refine Go.i2b (pc' := 27) C X103 d12_26 rfl ?_
  refine Go.icmpNo (pc' := 30) C X103 d12_27 (teq (x := x0.toInt8.toInt32) (y := ((64 : Int32).toInt8.toInt32)) ((b64 hx0).mpr qe0)).2 rfl ?_
  refine Go.iloadN (pc' := 31) C X103 d12_30 rfl rfl ?_
  exact Go.retI C X103 rfl d12_31 (by rw [e103]; exact ⟨rfl, (by simp), rfl⟩) (by decide) (by decide)
def Q_lj10 (Z : State) (s1 : Addr) (v : Addr) (k : ClassId) (x0 : Int32) (cP : Int32) (h0 : Heap) (rv : Option Value) (h : Heap) (L : List Loc) : Prop := rv = some (.int (0 : Int32)) ∧ L = [] ∧ h = h0
theorem rm_lj10 (l : Launch) (Z : State) (a0 : Array Value) (hw : ∀ d ∈ tables_1, d.before a0 Z = true) (s1 : Addr) (v : Addr) (k : ClassId) (x0 : Int32) (cP : Int32) (h0 : Heap) (O0 : Ext Z.heap h0) (E0 : Exa Z h0 s1 "java/lang/String") (Fv : Fld Z h0 s1 "java/lang/String" "value" "[B" (.ref v)) (Fc : Fld Z h0 s1 "java/lang/String" "coder" "B" (.int (0 : Int32))) (Bx : AL Z h0 v k .byte (by8 [x0])) (SC : Sta Z Z.heap "java/lang/String" "COMPACT_STRINGS" "Z" (.int cP)) (hx0 : 0 ≤ x0.toInt ∧ x0.toInt ≤ 255) (qe0 : x0 = (64 : Int32)) (hP : ¬ cP = (0 : Int32)) :
    Met1 l Z mN9 jdk_42_method_83_code 3 (some .int) ({ frames := 2, cells := 0, slots := 0, locals := 28 } : Room) #[(.ref s1), (.int (64 : Int32)), (.int (0 : Int32))] h0 (Q_lj10 Z s1 v k x0 cP h0) := by
  refine Met1.of_body (Ls := #[.val (.ref s1), .val (.int (64 : Int32)), .val (.int (0 : Int32))]) pf_10 (fun m => by first | (simp [entryFrame, mkF, argsToLocals, Value.category]; done) | rfl) ?_
  intro p e s m below meth c T0 C X0 e0
  have N0 : Fr Z.heap.size [] := Fr.nil _
  refine Go.aloadN (pc' := 1) C X0 d10_0 rfl rfl rfl ?_
  refine Go.callV (y := mN7) (z := mN7) (a := s1) (pc' := 4) C X0 (tw hw 55 rfl) (tw hw 56 rfl) (notFace_at C.2.1 (tw hw 58 rfl)) (tw hw 58 rfl) (tw hw 57 rfl) E0 (by decide) (rm_isL l Z a0 hw s1 cP h0 O0 Fc SC hP) (tw hw 59 rfl) (tw hw 11 rfl) e0 (argsL := []) (rest := []) (W := 0) rfl rfl pd_13 rfl (Nat.le_of_eq rfl) rfl (by decide) (by decide) (by decide) (by decide) d10_1 rfl ?_
  intro T101 v101 L101 X101 q101
  obtain ⟨rfl, rfl, e101⟩ := q101
  have N101 := Fr.app N0 (Fr.nil _)
  refine Go.ifNo (pc' := 7) C X101 d10_4 ((if0 _ _).trans (feq (x := (1 : Int32)) (y := (0 : Int32)) (by decide)).1) rfl ?_
  refine Go.aloadN (pc' := 8) C X101 d10_7 rfl rfl rfl ?_
  refine Go.getF (pc' := 11) (host := "") C X101 (Or.inl (tw hw 28 rfl)) Via.refl e101 Fv d10_8 rfl ?_
  intro T103 X103 e103
  refine Go.iloadN (pc' := 12) C X103 d10_11 rfl rfl ?_
  refine Go.iloadN (pc' := 13) C X103 d10_12 rfl rfl ?_
  refine Go.callS (y := mN15) (pc' := 16) C X103 (tw hw 60 rfl) (tw hw 61 rfl) (by decide) (rm_li10 l Z a0 hw v k x0 h0 O0 Bx hx0 qe0) (tw hw 63 rfl) (tw hw 62 rfl) e103 (argsL := [(.ref v), (.int (64 : Int32)), (.int (0 : Int32))]) (rest := []) (W := 0) rfl rfl pd_21 rfl (Nat.le_of_eq rfl) rfl (by decide) (by decide) (by decide) (by decide) d10_13 rfl ?_
  intro T104 v104 L104 X104 q104
  obtain ⟨rfl, rfl, e104⟩ := q104
  have N104 := Fr.app N101 (Fr.nil _)
  refine Go.goto (pc' := 28) C X104 d10_16 (by decide) (by decide) ?_
  exact Go.retI C X104 rfl d10_28 (by rw [e104]; exact ⟨rfl, (by simp), rfl⟩) (by decide) (by decide)
def Q_lk10 (Z : State) (s1 : Addr) (v : Addr) (k : ClassId) (x0 : Int32) (cP : Int32) (h0 : Heap) (rv : Option Value) (h : Heap) (L : List Loc) : Prop := rv = some (.int (0 : Int32)) ∧ L = [] ∧ h = h0
theorem rm_lk10 (l : Launch) (Z : State) (a0 : Array Value) (hw : ∀ d ∈ tables_1, d.before a0 Z = true) (s1 : Addr) (v : Addr) (k : ClassId) (x0 : Int32) (cP : Int32) (h0 : Heap) (O0 : Ext Z.heap h0) (E0 : Exa Z h0 s1 "java/lang/String") (Fv : Fld Z h0 s1 "java/lang/String" "value" "[B" (.ref v)) (Fc : Fld Z h0 s1 "java/lang/String" "coder" "B" (.int (0 : Int32))) (Bx : AL Z h0 v k .byte (by8 [x0])) (SC : Sta Z Z.heap "java/lang/String" "COMPACT_STRINGS" "Z" (.int cP)) (hx0 : 0 ≤ x0.toInt ∧ x0.toInt ≤ 255) (qe0 : x0 = (64 : Int32)) (hP : ¬ cP = (0 : Int32)) :
    Met1 l Z mN8 jdk_42_method_82_code 2 (some .int) ({ frames := 3, cells := 0, slots := 0, locals := 42 } : Room) #[(.ref s1), (.int (64 : Int32))] h0 (Q_lk10 Z s1 v k x0 cP h0) := by
  refine Met1.of_body (Ls := #[.val (.ref s1), .val (.int (64 : Int32))]) pf_7 (fun m => by first | (simp [entryFrame, mkF, argsToLocals, Value.category]; done) | rfl) ?_
  intro p e s m below meth c T0 C X0 e0
  have N0 : Fr Z.heap.size [] := Fr.nil _
  refine Go.aloadN (pc' := 1) C X0 d7_0 rfl rfl rfl ?_
  refine Go.iloadN (pc' := 2) C X0 d7_1 rfl rfl ?_
  refine Go.aloadN (pc' := 3) C X0 d7_2 rfl rfl rfl ?_
  refine Go.callV (y := mN10) (z := mN10) (a := s1) (pc' := 6) C X0 (tw hw 39 rfl) (tw hw 40 rfl) (notFace_at C.2.1 (tw hw 42 rfl)) (tw hw 42 rfl) (tw hw 41 rfl) E0 (by decide) (rm_len l Z a0 hw s1 v k [x0] cP ((1 : Int32)) h0 O0 E0 Fv Fc Bx SC hP rfl) (tw hw 43 rfl) (tw hw 11 rfl) e0 (argsL := []) (rest := [(.int (64 : Int32)), (.ref s1)]) (W := 2) rfl rfl pd_11 rfl (Nat.le_of_eq rfl) rfl (by decide) (by decide) (by decide) (by decide) d7_3 rfl ?_
  intro T101 v101 L101 X101 q101
  obtain ⟨rfl, rfl, e101⟩ := q101
  have N101 := Fr.app N0 (Fr.nil _)
  refine Go.iconst (z := (1 : Int32)) (pc' := 7) C X101 d7_6 rfl rfl ?_
  refine Go.isub (pc' := 8) C X101 d7_7 rfl ?_
  rw [show ((1 : Int32) - (1 : Int32)) = (0 : Int32) from by decide]
  refine Go.callV (y := mN9) (z := mN9) (a := s1) (pc' := 11) C X101 (tw hw 50 rfl) (tw hw 51 rfl) (notFace_at C.2.1 (tw hw 53 rfl)) (tw hw 53 rfl) (tw hw 52 rfl) E0 (by decide) (rm_lj10 l Z a0 hw s1 v k x0 cP h0 O0 E0 Fv Fc Bx SC hx0 qe0 hP) (tw hw 54 rfl) (tw hw 11 rfl) e101 (argsL := [(.int (64 : Int32)), (.int (0 : Int32))]) (rest := []) (W := 0) rfl rfl pd_17 rfl (Nat.le_of_eq rfl) rfl (by decide) (by decide) (by decide) (by decide) d7_8 rfl ?_
  intro T102 v102 L102 X102 q102
  obtain ⟨rfl, rfl, e102⟩ := q102
  have N102 := Fr.app N101 (Fr.nil _)
  exact Go.retI C X102 rfl d7_11 (by rw [e102]; exact ⟨rfl, (by simp), rfl⟩) (by decide) (by decide)
theorem pd_24 : parseMethodDescriptor "(I)Ljava/lang/String;" = some ⟨[.int], some (.object "java/lang/String")⟩ := by decide +kernel
theorem pd_25 : parseMethodDescriptor "(Ljava/lang/Object;)Ljava/util/Optional;" = some ⟨[(.object "java/lang/Object")], some (.object "java/util/Optional")⟩ := by decide +kernel
theorem d6_17 : decode prog_20_method_8_code 17 = .ok (.aload_n 0, 1) := by decide +kernel
theorem d6_18 : decode prog_20_method_8_code 18 = .ok (.iload_n 1, 1) := by decide +kernel
theorem d6_19 : decode prog_20_method_8_code 19 = .ok (.iconst 1, 1) := by decide +kernel
theorem d6_20 : decode prog_20_method_8_code 20 = .ok (.iadd, 1) := by decide +kernel
theorem d6_21 : decode prog_20_method_8_code 21 = .ok (.invokevirtual 167, 3) := by decide +kernel
theorem d6_24 : decode prog_20_method_8_code 24 = .ok (.invokestatic 171, 3) := by decide +kernel
def Q_sc10 (Z : State) (s1 : Addr) (v : Addr) (k : ClassId) (x0 : Int32) (cP : Int32) (fm : Value) (h0 : Heap) (rv : Option Value) (h : Heap) (L : List Loc) : Prop := ∃ o : Addr, ∃ r : Addr, ∃ u : Addr, ∃ ku : ClassId, rv = some (.ref o) ∧ Fr Z.heap.size L ∧ Keep h0 h [] ∧ h0.size ≤ o ∧ Exa Z h o "java/util/Optional" ∧ Fld Z h o "java/util/Optional" "value" "Ljava/lang/Object;" (.ref r) ∧ Exa Z h r "java/lang/String" ∧ Fld Z h r "java/lang/String" "value" "[B" (.ref u) ∧ Fld Z h r "java/lang/String" "coder" "B" (.int (0 : Int32)) ∧ AL Z h u ku .byte (by8 [])
theorem rm_sc10 (l : Launch) (Z : State) (a0 : Array Value) (hw : ∀ d ∈ tables_1, d.before a0 Z = true) (s1 : Addr) (v : Addr) (k : ClassId) (x0 : Int32) (cP : Int32) (fm : Value) (h0 : Heap) (O0 : Ext Z.heap h0) (E0 : Exa Z h0 s1 "java/lang/String") (Fv : Fld Z h0 s1 "java/lang/String" "value" "[B" (.ref v)) (Fc : Fld Z h0 s1 "java/lang/String" "coder" "B" (.int (0 : Int32))) (Bx : AL Z h0 v k .byte (by8 [x0])) (SC : Sta Z Z.heap "java/lang/String" "COMPACT_STRINGS" "Z" (.int cP)) (SF : Sta Z Z.heap "jdk/internal/util/Preconditions" "SIOOBE_FORMATTER" "Ljava/util/function/BiFunction;" fm) (hx0 : 0 ≤ x0.toInt ∧ x0.toInt ≤ 255) (qe0 : x0 = (64 : Int32)) (hP : ¬ cP = (0 : Int32)) (hfm : fm.category = 1) :
    Met1H consts_1 [] l Z mN30 prog_20_method_8_code 2 (some (.object "java/util/Optional")) ({ frames := 4, cells := 3, slots := 5, locals := 58 } : Room) #[(.ref s1)] h0 (Q_sc10 Z s1 v k x0 cP fm h0) := by
  refine Met1H.of_body (Ls := #[.val (.ref s1), .unset]) pf_6 (fun m => by first | (simp [entryFrame, mkF, argsToLocals, Value.category]; done) | rfl) ?_
  intro p e s m below meth c T0 C X0 e0 hH0 hsf0
  have Hr0 := CHr.refl hH0
  have N0 : Fr Z.heap.size [] := Fr.nil _
  have Si0 : Sin s s h0 := Sin.start s h0
  refine Go.aloadN (pc' := 1) C X0 d6_0 rfl rfl rfl ?_
  refine Go.bipush (z := (64 : Int32)) (pc' := 3) C X0 d6_1 rfl rfl ?_
  refine Go.callV (y := mN8) (z := mN8) (a := s1) (pc' := 6) C X0 (tw hw 34 rfl) (tw hw 35 rfl) (notFace_at C.2.1 (tw hw 37 rfl)) (tw hw 37 rfl) (tw hw 36 rfl) E0 (by decide) (rm_lk10 l Z a0 hw s1 v k x0 cP h0 O0 E0 Fv Fc Bx SC hx0 qe0 hP) (tw hw 38 rfl) (tw hw 11 rfl) e0 (argsL := [(.int (64 : Int32))]) (rest := []) (W := 0) rfl rfl pd_22 rfl (Nat.le_of_eq rfl) rfl (by decide) (by decide) (by decide) (by decide) d6_3 rfl ?_
  intro T101 v101 L101 X101 q101
  obtain ⟨rfl, rfl, e101⟩ := q101
  have N101 := Fr.app N0 (Fr.nil _)
  refine Go.istoreN (Ls' := #[.val (.ref s1), .val (.int (0 : Int32))]) (pc' := 7) C X101 d6_6 rfl rfl ?_
  refine Go.iloadN (pc' := 8) C X101 d6_7 rfl rfl ?_
  refine Go.ifYes (pc' := 17) C X101 d6_8 ((if0 _ _).trans (flt (x := (0 : Int32)) (y := (0 : Int32)) (by decide)).2.1) (by decide) (by decide) ?_
  refine Go.aloadN (pc' := 18) C X101 d6_17 rfl rfl rfl ?_
  refine Go.iloadN (pc' := 19) C X101 d6_18 rfl rfl ?_
  refine Go.iconst (z := (1 : Int32)) (pc' := 20) C X101 d6_19 rfl rfl ?_
  refine Go.iadd (pc' := 21) C X101 d6_20 rfl ?_
  rw [show ((0 : Int32) + (1 : Int32)) = (1 : Int32) from by decide]
  refine Go.callVH (y := mN11) (z := mN11) (a := s1) (pc' := 24) C X101 Si0 (EWc hw) Hr0.1 (tw hw 96 rfl) (tw hw 97 rfl) (notFace_at C.2.1 (tw hw 99 rfl)) (tw hw 99 rfl) (tw hw 98 rfl) E0 (by decide) all0 (rm_su111 l Z a0 hw s1 v k x0 cP fm h0 O0 E0 Fv Fc Bx SC SF hP hfm) (tw hw 100 rfl) (tw hw 11 rfl) e101 (argsL := [(.int (1 : Int32))]) (rest := []) (W := 0) rfl rfl pd_24 rfl (Nat.le_of_eq rfl) rfl (by decide) (by decide) (by decide) (by decide) d6_21 rfl ?_
  intro T103 v103 L103 sC103 C103 X103 Si103 hR103 q103
  obtain ⟨r_103, u_103, ku_103, rfl, N103q, K103, P103_0, P103_1, P103_2, P103_3⟩ := q103
  have N103 := Fr.app N101 N103q
  have Hr104 := CHr.trans Hr0 hR103
  have O106 : Ext Z.heap T103.heap := (Ext.keep O0 K103 all0)
  refine Go.callS (y := mN28) (pc' := 27) C103 X103 (tw hw 118 rfl) (tw hw 119 rfl) (by decide) (rm_oof l Z a0 hw r_103 T103.heap O106 ) (tw hw 120 rfl) (tw hw 73 rfl) rfl (argsL := [(.ref r_103)]) (rest := []) (W := 0) rfl rfl pd_25 rfl (Nat.le_of_eq rfl) rfl (by decide) (by decide) (by decide) (by decide) d6_24 rfl ?_
  intro T105 v105 L105 X105 q105
  obtain ⟨o_105, rfl, N105q, K105, B105_0, P105_0, P105_1⟩ := q105
  have N105 := Fr.app N103 N105q
  have Hr107 := CHr.trans Hr104 (CHr.keep K105 all0 Hr104.1)
  have n_o_105 : Z.heap.size ≤ o_105 := Nat.le_trans O106.1 B105_0
  have z_o_105 : h0.size ≤ o_105 := Nat.le_trans (Nat.le_trans (Nat.le_refl _) K103.1) B105_0
  have s_o_105 : Safe Z consts_1 sC103.vm T105.heap o_105 := Safe.keep K105 all0 Hr104.1 (Safe.new B105_0)
  have K108 : Keep h0 T105.heap [] := (((Keep.refl h0 []).trans K103 all0).trans K105 all0)
  have c109 : Exa Z T105.heap r_103 "java/lang/String" := (Exa.keep P103_0 K105)
  have c110 : Fld Z T105.heap r_103 "java/lang/String" "value" "[B" (.ref u_103) := (Fld.keep P103_1 K105 nin0)
  have c111 : Fld Z T105.heap r_103 "java/lang/String" "coder" "B" (.int (0 : Int32)) := (Fld.keep P103_2 K105 nin0)
  have c112 : AL Z T105.heap u_103 ku_103 .byte (by8 []) := (AL.keep P103_3 K105 nin0)
  have Si113 : Sin s sC103 T105.heap := Sin.mono Si103 (Nat.le_trans (Nat.le_refl _) K105.1)
  exact Go.retAH C103 X105 Si113 (EWc hw) Hr107 rfl d6_27 rfl rfl rfl ⟨o_105, r_103, u_103, ku_103, rfl, N105, K108, z_o_105, P105_0, P105_1, c109, c110, c111, c112⟩ (by decide) (by decide)
def Q_li2m (Z : State) (v : Addr) (k : ClassId) (x0 : Int32) (x1 : Int32) (h0 : Heap) (rv : Option Value) (h : Heap) (L : List Loc) : Prop := rv = some (.int (-1 : Int32)) ∧ L = [] ∧ h = h0
theorem rm_li2m (l : Launch) (Z : State) (a0 : Array Value) (hw : ∀ d ∈ tables_1, d.before a0 Z = true) (v : Addr) (k : ClassId) (x0 : Int32) (x1 : Int32) (h0 : Heap) (O0 : Ext Z.heap h0) (Bx : AL Z h0 v k .byte (by8 [x0, x1])) (hx0 : 0 ≤ x0.toInt ∧ x0.toInt ≤ 255) (hx1 : 0 ≤ x1.toInt ∧ x1.toInt ≤ 255) (qe0 : ¬ x0 = (64 : Int32)) (qe1 : ¬ x1 = (64 : Int32)) :
    Met1 l Z mN15 jdk_43_method_27_code 4 (some .int) ({ frames := 1, cells := 0, slots := 0, locals := 13 } : Room) #[(.ref v), (.int (64 : Int32)), (.int (1 : Int32))] h0 (Q_li2m Z v k x0 x1 h0) := by
  refine Met1.of_body (Ls := #[.val (.ref v), .val (.int (64 : Int32)), .val (.int (1 : Int32)), .unset]) pf_12 (fun m => by first | (simp [entryFrame, mkF, argsToLocals, Value.category]; done) | rfl) ?_
  intro p e s m below meth c T0 C X0 e0
  have N0 : Fr Z.heap.size [] := Fr.nil _
  refine Go.iloadN (pc' := 1) C X0 d12_0 rfl rfl ?_
  refine Go.callS (y := mN13) (pc' := 4) C X0 (tw hw 64 rfl) (tw hw 65 rfl) (by decide) (rm_ce l Z a0 hw  h0 O0 ) (tw hw 66 rfl) (tw hw 62 rfl) e0 (argsL := [(.int (64 : Int32))]) (rest := []) (W := 0) rfl rfl pd_20 rfl (Nat.le_of_eq rfl) rfl (by decide) (by decide) (by decide) (by decide) d12_1 rfl ?_
  intro T101 v101 L101 X101 q101
  obtain ⟨rfl, rfl, e101⟩ := q101
  have N101 := Fr.app N0 (Fr.nil _)
  refine Go.ifYes (pc' := 9) C X101 d12_4 ((if0 _ _).trans (feq (x := (1 : Int32)) (y := (0 : Int32)) (by decide)).2) (by decide) (by decide) ?_
  refine Go.iloadN (pc' := 10) C X101 d12_9 rfl rfl ?_
  refine Go.aloadN (pc' := 11) C X101 d12_10 rfl rfl rfl ?_
  refine Go.alen (z := (2 : Int32)) (pc' := 12) C X101 e101 Bx (by rw [by8_len]; rfl) d12_11 rfl ?_
  refine Go.iconst (z := (1 : Int32)) (pc' := 13) C X101 d12_12 rfl rfl ?_
  refine Go.isub (pc' := 14) C X101 d12_13 rfl ?_
  rw [show ((2 : Int32) - (1 : Int32)) = (1 : Int32) from by decide]
  refine Go.callS (y := mN0) (pc' := 17) C X101 (tw hw 67 rfl) (tw hw 68 rfl) (by decide) (rm_mn l Z a0 hw ((1 : Int32)) h0 O0 ) (tw hw 70 rfl) (tw hw 69 rfl) e101 (argsL := [(.int (1 : Int32)), (.int (1 : Int32))]) (rest := []) (W := 0) rfl rfl pd_17 rfl (Nat.le_of_eq rfl) rfl (by decide) (by decide) (by decide) (by decide) d12_14 rfl ?_
  intro T103 v103 L103 X103 q103
  obtain ⟨rfl, rfl, e103⟩ := q103
  have N103 := Fr.app N101 (Fr.nil _)
  refine Go.istoreN (Ls' := #[.val (.ref v), .val (.int (64 : Int32)), .val (.int (1 : Int32)), .val (.int (1 : Int32))]) (pc' := 18) C X103 d12_17 rfl rfl ?_
  refine Go.iloadN (pc' := 19) C X103 d12_18 rfl rfl ?_
  refine Go.ifNo (pc' := 22) C X103 d12_19 ((if0 _ _).trans (flt (x := (1 : Int32)) (y := (0 : Int32)) (by decide)).1) rfl ?_
  refine Go.aloadN (pc' := 23) C X103 d12_22 rfl rfl rfl ?_
  refine Go.iloadN (pc' := 24) C X103 d12_23 rfl rfl ?_
  refine Go.ldB (i := 1) (v := (.int x1.toInt8.toInt32)) (pc' := 25) C X103 e103 Bx (by decide) (by decide) (by8_get rfl) d12_24 rfl ?_
  refine Go.iloadN (pc' := 26) C X103 d12_25 rfl rfl ?_
  refine Go.i2b (pc' := 27) C X103 d12_26 rfl ?_
  refine Go.icmpYes (pc' := 32) C X103 d12_27 (feq (x := x1.toInt8.toInt32) (y := ((64 : Int32).toInt8.toInt32)) (fun q => qe1 ((b64 hx1).mp q))).2 (by decide) (by decide) ?_
  refine Go.iinc (Ls' := #[.val (.ref v), .val (.int (64 : Int32)), .val (.int (1 : Int32)), .val (.int ((1 : Int32) + (-1 : Int32)))]) (z := (-1 : Int32)) (pc' := 35) C X103 d12_32 rfl rfl rfl rfl ?_
  rw [show ((1 : Int32) + (-1 : Int32)) = (0 : Int32) from by decide]
  refine Go.goto (pc' := 18) C X103 d12_35 (by decide) (by decide) ?_
  refine Go.iloadN (pc' := 19) C X103 d12_18 rfl rfl ?_
  refine Go.ifNo (pc' := 22) C X103 d12_19 ((if0 _ _).trans (flt (x := (0 : Int32)) (y := (0 : Int32)) (by decide)).1) rfl ?_
  refine Go.aloadN (pc' := 23) C X103 d12_22 rfl rfl rfl ?_
  refine Go.iloadN (pc' := 24) C X103 d12_23 rfl rfl ?_
  refine Go.ldB (i := 0) (v := (.int x0.toInt8.toInt32)) (pc' := 25) C X103 e103 Bx (by decide) (by decide) (by8_get rfl) d12_24 rfl ?_
  refine Go.iloadN (pc' := 26) C X103 d12_25 rfl rfl ?_
  refine Go.i2b (pc' := 27) C X103 d12_26 rfl ?_
  refine Go.icmpYes (pc' := 32) C X103 d12_27 (feq (x := x0.toInt8.toInt32) (y := ((64 : Int32).toInt8.toInt32)) (fun q => qe0 ((b64 hx0).mp q))).2 (by decide) (by decide) ?_
  refine Go.iinc (Ls' := #[.val (.ref v), .val (.int (64 : Int32)), .val (.int (1 : Int32)), .val (.int ((0 : Int32) + (-1 : Int32)))]) (z := (-1 : Int32)) (pc' := 35) C X103 d12_32 rfl rfl rfl rfl ?_
  rw [show ((0 : Int32) + (-1 : Int32)) = (-1 : Int32) from by decide]
  refine Go.goto (pc' := 18) C X103 d12_35 (by decide) (by decide) ?_
  refine Go.iloadN (pc' := 19) C X103 d12_18 rfl rfl ?_
  refine Go.ifYes (pc' := 38) C X103 d12_19 ((if0 _ _).trans (tlt (x := (-1 : Int32)) (y := (0 : Int32)) (by decide)).1) (by decide) (by decide) ?_
  refine Go.iconst (z := (-1 : Int32)) (pc' := 39) C X103 d12_38 rfl rfl ?_
  exact Go.retI C X103 rfl d12_39 (by rw [e103]; exact ⟨rfl, (by simp), rfl⟩) (by decide) (by decide)
def Q_lj2m (Z : State) (s1 : Addr) (v : Addr) (k : ClassId) (x0 : Int32) (x1 : Int32) (cP : Int32) (h0 : Heap) (rv : Option Value) (h : Heap) (L : List Loc) : Prop := rv = some (.int (-1 : Int32)) ∧ L = [] ∧ h = h0
theorem rm_lj2m (l : Launch) (Z : State) (a0 : Array Value) (hw : ∀ d ∈ tables_1, d.before a0 Z = true) (s1 : Addr) (v : Addr) (k : ClassId) (x0 : Int32) (x1 : Int32) (cP : Int32) (h0 : Heap) (O0 : Ext Z.heap h0) (E0 : Exa Z h0 s1 "java/lang/String") (Fv : Fld Z h0 s1 "java/lang/String" "value" "[B" (.ref v)) (Fc : Fld Z h0 s1 "java/lang/String" "coder" "B" (.int (0 : Int32))) (Bx : AL Z h0 v k .byte (by8 [x0, x1])) (SC : Sta Z Z.heap "java/lang/String" "COMPACT_STRINGS" "Z" (.int cP)) (hx0 : 0 ≤ x0.toInt ∧ x0.toInt ≤ 255) (hx1 : 0 ≤ x1.toInt ∧ x1.toInt ≤ 255) (qe0 : ¬ x0 = (64 : Int32)) (qe1 : ¬ x1 = (64 : Int32)) (hP : ¬ cP = (0 : Int32)) :
    Met1 l Z mN9 jdk_42_method_83_code 3 (some .int) ({ frames := 2, cells := 0, slots := 0, locals := 28 } : Room) #[(.ref s1), (.int (64 : Int32)), (.int (1 : Int32))] h0 (Q_lj2m Z s1 v k x0 x1 cP h0) := by
  refine Met1.of_body (Ls := #[.val (.ref s1), .val (.int (64 : Int32)), .val (.int (1 : Int32))]) pf_10 (fun m => by first | (simp [entryFrame, mkF, argsToLocals, Value.category]; done) | rfl) ?_
  intro p e s m below meth c T0 C X0 e0
  have N0 : Fr Z.heap.size [] := Fr.nil _
  refine Go.aloadN (pc' := 1) C X0 d10_0 rfl rfl rfl ?_
  refine Go.callV (y := mN7) (z := mN7) (a := s1) (pc' := 4) C X0 (tw hw 55 rfl) (tw hw 56 rfl) (notFace_at C.2.1 (tw hw 58 rfl)) (tw hw 58 rfl) (tw hw 57 rfl) E0 (by decide) (rm_isL l Z a0 hw s1 cP h0 O0 Fc SC hP) (tw hw 59 rfl) (tw hw 11 rfl) e0 (argsL := []) (rest := []) (W := 0) rfl rfl pd_13 rfl (Nat.le_of_eq rfl) rfl (by decide) (by decide) (by decide) (by decide) d10_1 rfl ?_
  intro T101 v101 L101 X101 q101
  obtain ⟨rfl, rfl, e101⟩ := q101
  have N101 := Fr.app N0 (Fr.nil _)
  refine Go.ifNo (pc' := 7) C X101 d10_4 ((if0 _ _).trans (feq (x := (1 : Int32)) (y := (0 : Int32)) (by decide)).1) rfl ?_
  refine Go.aloadN (pc' := 8) C X101 d10_7 rfl rfl rfl ?_
  refine Go.getF (pc' := 11) (host := "") C X101 (Or.inl (tw hw 28 rfl)) Via.refl e101 Fv d10_8 rfl ?_
  intro T103 X103 e103
  refine Go.iloadN (pc' := 12) C X103 d10_11 rfl rfl ?_
  refine Go.iloadN (pc' := 13) C X103 d10_12 rfl rfl ?_
  refine Go.callS (y := mN15) (pc' := 16) C X103 (tw hw 60 rfl) (tw hw 61 rfl) (by decide) (rm_li2m l Z a0 hw v k x0 x1 h0 O0 Bx hx0 hx1 qe0 qe1) (tw hw 63 rfl) (tw hw 62 rfl) e103 (argsL := [(.ref v), (.int (64 : Int32)), (.int (1 : Int32))]) (rest := []) (W := 0) rfl rfl pd_21 rfl (Nat.le_of_eq rfl) rfl (by decide) (by decide) (by decide) (by decide) d10_13 rfl ?_
  intro T104 v104 L104 X104 q104
  obtain ⟨rfl, rfl, e104⟩ := q104
  have N104 := Fr.app N101 (Fr.nil _)
  refine Go.goto (pc' := 28) C X104 d10_16 (by decide) (by decide) ?_
  exact Go.retI C X104 rfl d10_28 (by rw [e104]; exact ⟨rfl, (by simp), rfl⟩) (by decide) (by decide)
def Q_lk2m (Z : State) (s1 : Addr) (v : Addr) (k : ClassId) (x0 : Int32) (x1 : Int32) (cP : Int32) (h0 : Heap) (rv : Option Value) (h : Heap) (L : List Loc) : Prop := rv = some (.int (-1 : Int32)) ∧ L = [] ∧ h = h0
theorem rm_lk2m (l : Launch) (Z : State) (a0 : Array Value) (hw : ∀ d ∈ tables_1, d.before a0 Z = true) (s1 : Addr) (v : Addr) (k : ClassId) (x0 : Int32) (x1 : Int32) (cP : Int32) (h0 : Heap) (O0 : Ext Z.heap h0) (E0 : Exa Z h0 s1 "java/lang/String") (Fv : Fld Z h0 s1 "java/lang/String" "value" "[B" (.ref v)) (Fc : Fld Z h0 s1 "java/lang/String" "coder" "B" (.int (0 : Int32))) (Bx : AL Z h0 v k .byte (by8 [x0, x1])) (SC : Sta Z Z.heap "java/lang/String" "COMPACT_STRINGS" "Z" (.int cP)) (hx0 : 0 ≤ x0.toInt ∧ x0.toInt ≤ 255) (hx1 : 0 ≤ x1.toInt ∧ x1.toInt ≤ 255) (qe0 : ¬ x0 = (64 : Int32)) (qe1 : ¬ x1 = (64 : Int32)) (hP : ¬ cP = (0 : Int32)) :
    Met1 l Z mN8 jdk_42_method_82_code 2 (some .int) ({ frames := 3, cells := 0, slots := 0, locals := 42 } : Room) #[(.ref s1), (.int (64 : Int32))] h0 (Q_lk2m Z s1 v k x0 x1 cP h0) := by
  refine Met1.of_body (Ls := #[.val (.ref s1), .val (.int (64 : Int32))]) pf_7 (fun m => by first | (simp [entryFrame, mkF, argsToLocals, Value.category]; done) | rfl) ?_
  intro p e s m below meth c T0 C X0 e0
  have N0 : Fr Z.heap.size [] := Fr.nil _
  refine Go.aloadN (pc' := 1) C X0 d7_0 rfl rfl rfl ?_
  refine Go.iloadN (pc' := 2) C X0 d7_1 rfl rfl ?_
  refine Go.aloadN (pc' := 3) C X0 d7_2 rfl rfl rfl ?_
  refine Go.callV (y := mN10) (z := mN10) (a := s1) (pc' := 6) C X0 (tw hw 39 rfl) (tw hw 40 rfl) (notFace_at C.2.1 (tw hw 42 rfl)) (tw hw 42 rfl) (tw hw 41 rfl) E0 (by decide) (rm_len l Z a0 hw s1 v k ([x0, x1]) cP ((2 : Int32)) h0 O0 E0 Fv Fc Bx SC hP rfl) (tw hw 43 rfl) (tw hw 11 rfl) e0 (argsL := []) (rest := [(.int (64 : Int32)), (.ref s1)]) (W := 2) rfl rfl pd_11 rfl (Nat.le_of_eq rfl) rfl (by decide) (by decide) (by decide) (by decide) d7_3 rfl ?_
  intro T101 v101 L101 X101 q101
  obtain ⟨rfl, rfl, e101⟩ := q101
  have N101 := Fr.app N0 (Fr.nil _)
  refine Go.iconst (z := (1 : Int32)) (pc' := 7) C X101 d7_6 rfl rfl ?_
  refine Go.isub (pc' := 8) C X101 d7_7 rfl ?_
  rw [show ((2 : Int32) - (1 : Int32)) = (1 : Int32) from by decide]
  refine Go.callV (y := mN9) (z := mN9) (a := s1) (pc' := 11) C X101 (tw hw 50 rfl) (tw hw 51 rfl) (notFace_at C.2.1 (tw hw 53 rfl)) (tw hw 53 rfl) (tw hw 52 rfl) E0 (by decide) (rm_lj2m l Z a0 hw s1 v k x0 x1 cP h0 O0 E0 Fv Fc Bx SC hx0 hx1 qe0 qe1 hP) (tw hw 54 rfl) (tw hw 11 rfl) e101 (argsL := [(.int (64 : Int32)), (.int (1 : Int32))]) (rest := []) (W := 0) rfl rfl pd_17 rfl (Nat.le_of_eq rfl) rfl (by decide) (by decide) (by decide) (by decide) d7_8 rfl ?_
  intro T102 v102 L102 X102 q102
  obtain ⟨rfl, rfl, e102⟩ := q102
  have N102 := Fr.app N101 (Fr.nil _)
  exact Go.retI C X102 rfl d7_11 (by rw [e102]; exact ⟨rfl, (by simp), rfl⟩) (by decide) (by decide)
def Q_sc2m (Z : State) (s1 : Addr) (v : Addr) (k : ClassId) (x0 : Int32) (x1 : Int32) (cP : Int32) (em : Addr) (h0 : Heap) (rv : Option Value) (h : Heap) (L : List Loc) : Prop := rv = some (.ref em) ∧ L = [] ∧ h = h0
theorem rm_sc2m (l : Launch) (Z : State) (a0 : Array Value) (hw : ∀ d ∈ tables_1, d.before a0 Z = true) (s1 : Addr) (v : Addr) (k : ClassId) (x0 : Int32) (x1 : Int32) (cP : Int32) (em : Addr) (h0 : Heap) (O0 : Ext Z.heap h0) (E0 : Exa Z h0 s1 "java/lang/String") (Fv : Fld Z h0 s1 "java/lang/String" "value" "[B" (.ref v)) (Fc : Fld Z h0 s1 "java/lang/String" "coder" "B" (.int (0 : Int32))) (Bx : AL Z h0 v k .byte (by8 [x0, x1])) (SC : Sta Z Z.heap "java/lang/String" "COMPACT_STRINGS" "Z" (.int cP)) (SE : Sta Z Z.heap "java/util/Optional" "EMPTY" "Ljava/util/Optional;" (.ref em)) (hx0 : 0 ≤ x0.toInt ∧ x0.toInt ≤ 255) (hx1 : 0 ≤ x1.toInt ∧ x1.toInt ≤ 255) (qe0 : ¬ x0 = (64 : Int32)) (qe1 : ¬ x1 = (64 : Int32)) (hP : ¬ cP = (0 : Int32)) :
    Met1 l Z mN30 prog_20_method_8_code 2 (some (.object "java/util/Optional")) ({ frames := 4, cells := 0, slots := 0, locals := 55 } : Room) #[(.ref s1)] h0 (Q_sc2m Z s1 v k x0 x1 cP em h0) := by
  refine Met1.of_body (Ls := #[.val (.ref s1), .unset]) pf_6 (fun m => by first | (simp [entryFrame, mkF, argsToLocals, Value.category]; done) | rfl) ?_
  intro p e s m below meth c T0 C X0 e0
  have N0 : Fr Z.heap.size [] := Fr.nil _
  refine Go.aloadN (pc' := 1) C X0 d6_0 rfl rfl rfl ?_
  refine Go.bipush (z := (64 : Int32)) (pc' := 3) C X0 d6_1 rfl rfl ?_
  refine Go.callV (y := mN8) (z := mN8) (a := s1) (pc' := 6) C X0 (tw hw 34 rfl) (tw hw 35 rfl) (notFace_at C.2.1 (tw hw 37 rfl)) (tw hw 37 rfl) (tw hw 36 rfl) E0 (by decide) (rm_lk2m l Z a0 hw s1 v k x0 x1 cP h0 O0 E0 Fv Fc Bx SC hx0 hx1 qe0 qe1 hP) (tw hw 38 rfl) (tw hw 11 rfl) e0 (argsL := [(.int (64 : Int32))]) (rest := []) (W := 0) rfl rfl pd_22 rfl (Nat.le_of_eq rfl) rfl (by decide) (by decide) (by decide) (by decide) d6_3 rfl ?_
  intro T101 v101 L101 X101 q101
  obtain ⟨rfl, rfl, e101⟩ := q101
  have N101 := Fr.app N0 (Fr.nil _)
  refine Go.istoreN (Ls' := #[.val (.ref s1), .val (.int (-1 : Int32))]) (pc' := 7) C X101 d6_6 rfl rfl ?_
  refine Go.iloadN (pc' := 8) C X101 d6_7 rfl rfl ?_
  refine Go.ifNo (pc' := 11) C X101 d6_8 ((if0 _ _).trans (tlt (x := (-1 : Int32)) (y := (0 : Int32)) (by decide)).2.1) rfl ?_
  refine Go.callS (y := mN25) (pc' := 14) C X101 (tw hw 71 rfl) (tw hw 72 rfl) (by decide) (rm_oem l Z a0 hw em h0 O0 SE) (tw hw 74 rfl) (tw hw 73 rfl) e101 (argsL := []) (rest := []) (W := 0) rfl rfl pd_23 rfl (Nat.le_of_eq rfl) rfl (by decide) (by decide) (by decide) (by decide) d6_11 rfl ?_
  intro T103 v103 L103 X103 q103
  obtain ⟨rfl, rfl, e103⟩ := q103
  have N103 := Fr.app N101 (Fr.nil _)
  refine Go.goto (pc' := 27) C X103 d6_14 (by decide) (by decide) ?_
  exact Go.retA C X103 rfl d6_27 rfl rfl rfl (by rw [e103]; exact ⟨rfl, (by simp), rfl⟩) (by decide) (by decide)
def Q_li20 (Z : State) (v : Addr) (k : ClassId) (x0 : Int32) (x1 : Int32) (h0 : Heap) (rv : Option Value) (h : Heap) (L : List Loc) : Prop := rv = some (.int (0 : Int32)) ∧ L = [] ∧ h = h0
theorem rm_li20 (l : Launch) (Z : State) (a0 : Array Value) (hw : ∀ d ∈ tables_1, d.before a0 Z = true) (v : Addr) (k : ClassId) (x0 : Int32) (x1 : Int32) (h0 : Heap) (O0 : Ext Z.heap h0) (Bx : AL Z h0 v k .byte (by8 [x0, x1])) (hx0 : 0 ≤ x0.toInt ∧ x0.toInt ≤ 255) (hx1 : 0 ≤ x1.toInt ∧ x1.toInt ≤ 255) (qe0 : x0 = (64 : Int32)) (qe1 : ¬ x1 = (64 : Int32)) :
    Met1 l Z mN15 jdk_43_method_27_code 4 (some .int) ({ frames := 1, cells := 0, slots := 0, locals := 13 } : Room) #[(.ref v), (.int (64 : Int32)), (.int (1 : Int32))] h0 (Q_li20 Z v k x0 x1 h0) := by
  refine Met1.of_body (Ls := #[.val (.ref v), .val (.int (64 : Int32)), .val (.int (1 : Int32)), .unset]) pf_12 (fun m => by first | (simp [entryFrame, mkF, argsToLocals, Value.category]; done) | rfl) ?_
  intro p e s m below meth c T0 C X0 e0
  have N0 : Fr Z.heap.size [] := Fr.nil _
  refine Go.iloadN (pc' := 1) C X0 d12_0 rfl rfl ?_
  refine Go.callS (y := mN13) (pc' := 4) C X0 (tw hw 64 rfl) (tw hw 65 rfl) (by decide) (rm_ce l Z a0 hw  h0 O0 ) (tw hw 66 rfl) (tw hw 62 rfl) e0 (argsL := [(.int (64 : Int32))]) (rest := []) (W := 0) rfl rfl pd_20 rfl (Nat.le_of_eq rfl) rfl (by decide) (by decide) (by decide) (by decide) d12_1 rfl ?_
  intro T101 v101 L101 X101 q101
  obtain ⟨rfl, rfl, e101⟩ := q101
  have N101 := Fr.app N0 (Fr.nil _)
  refine Go.ifYes (pc' := 9) C X101 d12_4 ((if0 _ _).trans (feq (x := (1 : Int32)) (y := (0 : Int32)) (by decide)).2) (by decide) (by decide) ?_
  refine Go.iloadN (pc' := 10) C X101 d12_9 rfl rfl ?_
  refine Go.aloadN (pc' := 11) C X101 d12_10 rfl rfl rfl ?_
  refine Go.alen (z := (2 : Int32)) (pc' := 12) C X101 e101 Bx (by rw [by8_len]; rfl) d12_11 rfl ?_
  refine Go.iconst (z := (1 : Int32)) (pc' := 13) C X101 d12_12 rfl rfl ?_
  refine Go.isub (pc' := 14) C X101 d12_13 rfl ?_
  rw [show ((2 : Int32) - (1 : Int32)) = (1 : Int32) from by decide]
  refine Go.callS (y := mN0) (pc' := 17) C X101 (tw hw 67 rfl) (tw hw 68 rfl) (by decide) (rm_mn l Z a0 hw ((1 : Int32)) h0 O0 ) (tw hw 70 rfl) (tw hw 69 rfl) e101 (argsL := [(.int (1 : Int32)), (.int (1 : Int32))]) (rest := []) (W := 0) rfl rfl pd_17 rfl (Nat.le_of_eq rfl) rfl (by decide) (by decide) (by decide) (by decide) d12_14 rfl ?_
  intro T103 v103 L103 X103 q103
  obtain ⟨rfl, rfl, e103⟩ := q103
  have N103 := Fr.app N101 (Fr.nil _)
  refine Go.istoreN (Ls' := #[.val (.ref v), .val (.int (64 : Int32)), .val (.int (1 : Int32)), .val (.int (1 : Int32))]) (pc' := 18) C X103 d12_17 rfl rfl ?_
  refine Go.iloadN (pc' := 19) C X103 d12_18 rfl rfl ?_
  refine Go.ifNo (pc' := 22) C X103 d12_19 ((if0 _ _).trans (flt (x := (1 : Int32)) (y := (0 : Int32)) (by decide)).1) rfl ?_
  refine Go.aloadN (pc' := 23) C X103 d12_22 rfl rfl rfl ?_
  refine Go.iloadN (pc' := 24) C X103 d12_23 rfl rfl ?_
  refine Go.ldB (i := 1) (v := (.int x1.toInt8.toInt32)) (pc' := 25) C X103 e103 Bx (by decide) (by decide) (by8_get rfl) d12_24 rfl ?_
  refine Go.iloadN (pc' := 26) C X103 d12_25 rfl rfl ?_
  refine Go.i2b (pc' := 27) C X103 d12_26 rfl ?_
  refine Go.icmpYes (pc' := 32) C X103 d12_27 (feq (x := x1.toInt8.toInt32) (y := ((64 : Int32).toInt8.toInt32)) (fun q => qe1 ((b64 hx1).mp q))).2 (by decide) (by decide) ?_
  refine Go.iinc (Ls' := #[.val (.ref v), .val (.int (64 : Int32)), .val (.int (1 : Int32)), .val (.int ((1 : Int32) + (-1 : Int32)))]) (z := (-1 : Int32)) (pc' := 35) C X103 d12_32 rfl rfl rfl rfl ?_
  rw [show ((1 : Int32) + (-1 : Int32)) = (0 : Int32) from by decide]
  refine Go.goto (pc' := 18) C X103 d12_35 (by decide) (by decide) ?_
  refine Go.iloadN (pc' := 19) C X103 d12_18 rfl rfl ?_
  refine Go.ifNo (pc' := 22) C X103 d12_19 ((if0 _ _).trans (flt (x := (0 : Int32)) (y := (0 : Int32)) (by decide)).1) rfl ?_
  refine Go.aloadN (pc' := 23) C X103 d12_22 rfl rfl rfl ?_
  refine Go.iloadN (pc' := 24) C X103 d12_23 rfl rfl ?_
  refine Go.ldB (i := 0) (v := (.int x0.toInt8.toInt32)) (pc' := 25) C X103 e103 Bx (by decide) (by decide) (by8_get rfl) d12_24 rfl ?_
  refine Go.iloadN (pc' := 26) C X103 d12_25 rfl rfl ?_
  refine Go.i2b (pc' := 27) C X103 d12_26 rfl ?_
  refine Go.icmpNo (pc' := 30) C X103 d12_27 (teq (x := x0.toInt8.toInt32) (y := ((64 : Int32).toInt8.toInt32)) ((b64 hx0).mpr qe0)).2 rfl ?_
  refine Go.iloadN (pc' := 31) C X103 d12_30 rfl rfl ?_
  exact Go.retI C X103 rfl d12_31 (by rw [e103]; exact ⟨rfl, (by simp), rfl⟩) (by decide) (by decide)
def Q_lj20 (Z : State) (s1 : Addr) (v : Addr) (k : ClassId) (x0 : Int32) (x1 : Int32) (cP : Int32) (h0 : Heap) (rv : Option Value) (h : Heap) (L : List Loc) : Prop := rv = some (.int (0 : Int32)) ∧ L = [] ∧ h = h0
theorem rm_lj20 (l : Launch) (Z : State) (a0 : Array Value) (hw : ∀ d ∈ tables_1, d.before a0 Z = true) (s1 : Addr) (v : Addr) (k : ClassId) (x0 : Int32) (x1 : Int32) (cP : Int32) (h0 : Heap) (O0 : Ext Z.heap h0) (E0 : Exa Z h0 s1 "java/lang/String") (Fv : Fld Z h0 s1 "java/lang/String" "value" "[B" (.ref v)) (Fc : Fld Z h0 s1 "java/lang/String" "coder" "B" (.int (0 : Int32))) (Bx : AL Z h0 v k .byte (by8 [x0, x1])) (SC : Sta Z Z.heap "java/lang/String" "COMPACT_STRINGS" "Z" (.int cP)) (hx0 : 0 ≤ x0.toInt ∧ x0.toInt ≤ 255) (hx1 : 0 ≤ x1.toInt ∧ x1.toInt ≤ 255) (qe0 : x0 = (64 : Int32)) (qe1 : ¬ x1 = (64 : Int32)) (hP : ¬ cP = (0 : Int32)) :
    Met1 l Z mN9 jdk_42_method_83_code 3 (some .int) ({ frames := 2, cells := 0, slots := 0, locals := 28 } : Room) #[(.ref s1), (.int (64 : Int32)), (.int (1 : Int32))] h0 (Q_lj20 Z s1 v k x0 x1 cP h0) := by
  refine Met1.of_body (Ls := #[.val (.ref s1), .val (.int (64 : Int32)), .val (.int (1 : Int32))]) pf_10 (fun m => by first | (simp [entryFrame, mkF, argsToLocals, Value.category]; done) | rfl) ?_
  intro p e s m below meth c T0 C X0 e0
  have N0 : Fr Z.heap.size [] := Fr.nil _
  refine Go.aloadN (pc' := 1) C X0 d10_0 rfl rfl rfl ?_
  refine Go.callV (y := mN7) (z := mN7) (a := s1) (pc' := 4) C X0 (tw hw 55 rfl) (tw hw 56 rfl) (notFace_at C.2.1 (tw hw 58 rfl)) (tw hw 58 rfl) (tw hw 57 rfl) E0 (by decide) (rm_isL l Z a0 hw s1 cP h0 O0 Fc SC hP) (tw hw 59 rfl) (tw hw 11 rfl) e0 (argsL := []) (rest := []) (W := 0) rfl rfl pd_13 rfl (Nat.le_of_eq rfl) rfl (by decide) (by decide) (by decide) (by decide) d10_1 rfl ?_
  intro T101 v101 L101 X101 q101
  obtain ⟨rfl, rfl, e101⟩ := q101
  have N101 := Fr.app N0 (Fr.nil _)
  refine Go.ifNo (pc' := 7) C X101 d10_4 ((if0 _ _).trans (feq (x := (1 : Int32)) (y := (0 : Int32)) (by decide)).1) rfl ?_
  refine Go.aloadN (pc' := 8) C X101 d10_7 rfl rfl rfl ?_
  refine Go.getF (pc' := 11) (host := "") C X101 (Or.inl (tw hw 28 rfl)) Via.refl e101 Fv d10_8 rfl ?_
  intro T103 X103 e103
  refine Go.iloadN (pc' := 12) C X103 d10_11 rfl rfl ?_
  refine Go.iloadN (pc' := 13) C X103 d10_12 rfl rfl ?_
  refine Go.callS (y := mN15) (pc' := 16) C X103 (tw hw 60 rfl) (tw hw 61 rfl) (by decide) (rm_li20 l Z a0 hw v k x0 x1 h0 O0 Bx hx0 hx1 qe0 qe1) (tw hw 63 rfl) (tw hw 62 rfl) e103 (argsL := [(.ref v), (.int (64 : Int32)), (.int (1 : Int32))]) (rest := []) (W := 0) rfl rfl pd_21 rfl (Nat.le_of_eq rfl) rfl (by decide) (by decide) (by decide) (by decide) d10_13 rfl ?_
  intro T104 v104 L104 X104 q104
  obtain ⟨rfl, rfl, e104⟩ := q104
  have N104 := Fr.app N101 (Fr.nil _)
  refine Go.goto (pc' := 28) C X104 d10_16 (by decide) (by decide) ?_
  exact Go.retI C X104 rfl d10_28 (by rw [e104]; exact ⟨rfl, (by simp), rfl⟩) (by decide) (by decide)
def Q_lk20 (Z : State) (s1 : Addr) (v : Addr) (k : ClassId) (x0 : Int32) (x1 : Int32) (cP : Int32) (h0 : Heap) (rv : Option Value) (h : Heap) (L : List Loc) : Prop := rv = some (.int (0 : Int32)) ∧ L = [] ∧ h = h0
theorem rm_lk20 (l : Launch) (Z : State) (a0 : Array Value) (hw : ∀ d ∈ tables_1, d.before a0 Z = true) (s1 : Addr) (v : Addr) (k : ClassId) (x0 : Int32) (x1 : Int32) (cP : Int32) (h0 : Heap) (O0 : Ext Z.heap h0) (E0 : Exa Z h0 s1 "java/lang/String") (Fv : Fld Z h0 s1 "java/lang/String" "value" "[B" (.ref v)) (Fc : Fld Z h0 s1 "java/lang/String" "coder" "B" (.int (0 : Int32))) (Bx : AL Z h0 v k .byte (by8 [x0, x1])) (SC : Sta Z Z.heap "java/lang/String" "COMPACT_STRINGS" "Z" (.int cP)) (hx0 : 0 ≤ x0.toInt ∧ x0.toInt ≤ 255) (hx1 : 0 ≤ x1.toInt ∧ x1.toInt ≤ 255) (qe0 : x0 = (64 : Int32)) (qe1 : ¬ x1 = (64 : Int32)) (hP : ¬ cP = (0 : Int32)) :
    Met1 l Z mN8 jdk_42_method_82_code 2 (some .int) ({ frames := 3, cells := 0, slots := 0, locals := 42 } : Room) #[(.ref s1), (.int (64 : Int32))] h0 (Q_lk20 Z s1 v k x0 x1 cP h0) := by
  refine Met1.of_body (Ls := #[.val (.ref s1), .val (.int (64 : Int32))]) pf_7 (fun m => by first | (simp [entryFrame, mkF, argsToLocals, Value.category]; done) | rfl) ?_
  intro p e s m below meth c T0 C X0 e0
  have N0 : Fr Z.heap.size [] := Fr.nil _
  refine Go.aloadN (pc' := 1) C X0 d7_0 rfl rfl rfl ?_
  refine Go.iloadN (pc' := 2) C X0 d7_1 rfl rfl ?_
  refine Go.aloadN (pc' := 3) C X0 d7_2 rfl rfl rfl ?_
  refine Go.callV (y := mN10) (z := mN10) (a := s1) (pc' := 6) C X0 (tw hw 39 rfl) (tw hw 40 rfl) (notFace_at C.2.1 (tw hw 42 rfl)) (tw hw 42 rfl) (tw hw 41 rfl) E0 (by decide) (rm_len l Z a0 hw s1 v k ([x0, x1]) cP ((2 : Int32)) h0 O0 E0 Fv Fc Bx SC hP rfl) (tw hw 43 rfl) (tw hw 11 rfl) e0 (argsL := []) (rest := [(.int (64 : Int32)), (.ref s1)]) (W := 2) rfl rfl pd_11 rfl (Nat.le_of_eq rfl) rfl (by decide) (by decide) (by decide) (by decide) d7_3 rfl ?_
  intro T101 v101 L101 X101 q101
  obtain ⟨rfl, rfl, e101⟩ := q101
  have N101 := Fr.app N0 (Fr.nil _)
  refine Go.iconst (z := (1 : Int32)) (pc' := 7) C X101 d7_6 rfl rfl ?_
  refine Go.isub (pc' := 8) C X101 d7_7 rfl ?_
  rw [show ((2 : Int32) - (1 : Int32)) = (1 : Int32) from by decide]
  refine Go.callV (y := mN9) (z := mN9) (a := s1) (pc' := 11) C X101 (tw hw 50 rfl) (tw hw 51 rfl) (notFace_at C.2.1 (tw hw 53 rfl)) (tw hw 53 rfl) (tw hw 52 rfl) E0 (by decide) (rm_lj20 l Z a0 hw s1 v k x0 x1 cP h0 O0 E0 Fv Fc Bx SC hx0 hx1 qe0 qe1 hP) (tw hw 54 rfl) (tw hw 11 rfl) e101 (argsL := [(.int (64 : Int32)), (.int (1 : Int32))]) (rest := []) (W := 0) rfl rfl pd_17 rfl (Nat.le_of_eq rfl) rfl (by decide) (by decide) (by decide) (by decide) d7_8 rfl ?_
  intro T102 v102 L102 X102 q102
  obtain ⟨rfl, rfl, e102⟩ := q102
  have N102 := Fr.app N101 (Fr.nil _)
  exact Go.retI C X102 rfl d7_11 (by rw [e102]; exact ⟨rfl, (by simp), rfl⟩) (by decide) (by decide)
def Q_sc20 (Z : State) (s1 : Addr) (v : Addr) (k : ClassId) (x0 : Int32) (x1 : Int32) (cP : Int32) (fm : Value) (h0 : Heap) (rv : Option Value) (h : Heap) (L : List Loc) : Prop := ∃ o : Addr, ∃ r : Addr, ∃ u : Addr, ∃ ku : ClassId, rv = some (.ref o) ∧ Fr Z.heap.size L ∧ Keep h0 h [] ∧ h0.size ≤ o ∧ h0.size ≤ r ∧ h0.size ≤ u ∧ Exa Z h o "java/util/Optional" ∧ Fld Z h o "java/util/Optional" "value" "Ljava/lang/Object;" (.ref r) ∧ Exa Z h r "java/lang/String" ∧ Fld Z h r "java/lang/String" "value" "[B" (.ref u) ∧ Fld Z h r "java/lang/String" "coder" "B" (.int (0 : Int32)) ∧ AL Z h u ku .byte (by8 [x1])
theorem rm_sc20 (l : Launch) (Z : State) (a0 : Array Value) (hw : ∀ d ∈ tables_1, d.before a0 Z = true) (s1 : Addr) (v : Addr) (k : ClassId) (x0 : Int32) (x1 : Int32) (cP : Int32) (fm : Value) (h0 : Heap) (O0 : Ext Z.heap h0) (E0 : Exa Z h0 s1 "java/lang/String") (Fv : Fld Z h0 s1 "java/lang/String" "value" "[B" (.ref v)) (Fc : Fld Z h0 s1 "java/lang/String" "coder" "B" (.int (0 : Int32))) (Bx : AL Z h0 v k .byte (by8 [x0, x1])) (SC : Sta Z Z.heap "java/lang/String" "COMPACT_STRINGS" "Z" (.int cP)) (SF : Sta Z Z.heap "jdk/internal/util/Preconditions" "SIOOBE_FORMATTER" "Ljava/util/function/BiFunction;" fm) (hx0 : 0 ≤ x0.toInt ∧ x0.toInt ≤ 255) (hx1 : 0 ≤ x1.toInt ∧ x1.toInt ≤ 255) (qe0 : x0 = (64 : Int32)) (qe1 : ¬ x1 = (64 : Int32)) (hP : ¬ cP = (0 : Int32)) (hfm : fm.category = 1) :
    Met1 l Z mN30 prog_20_method_8_code 2 (some (.object "java/util/Optional")) ({ frames := 6, cells := 3, slots := 6, locals := 93 } : Room) #[(.ref s1)] h0 (Q_sc20 Z s1 v k x0 x1 cP fm h0) := by
  refine Met1.of_body (Ls := #[.val (.ref s1), .unset]) pf_6 (fun m => by first | (simp [entryFrame, mkF, argsToLocals, Value.category]; done) | rfl) ?_
  intro p e s m below meth c T0 C X0 e0
  have N0 : Fr Z.heap.size [] := Fr.nil _
  refine Go.aloadN (pc' := 1) C X0 d6_0 rfl rfl rfl ?_
  refine Go.bipush (z := (64 : Int32)) (pc' := 3) C X0 d6_1 rfl rfl ?_
  refine Go.callV (y := mN8) (z := mN8) (a := s1) (pc' := 6) C X0 (tw hw 34 rfl) (tw hw 35 rfl) (notFace_at C.2.1 (tw hw 37 rfl)) (tw hw 37 rfl) (tw hw 36 rfl) E0 (by decide) (rm_lk20 l Z a0 hw s1 v k x0 x1 cP h0 O0 E0 Fv Fc Bx SC hx0 hx1 qe0 qe1 hP) (tw hw 38 rfl) (tw hw 11 rfl) e0 (argsL := [(.int (64 : Int32))]) (rest := []) (W := 0) rfl rfl pd_22 rfl (Nat.le_of_eq rfl) rfl (by decide) (by decide) (by decide) (by decide) d6_3 rfl ?_
  intro T101 v101 L101 X101 q101
  obtain ⟨rfl, rfl, e101⟩ := q101
  have N101 := Fr.app N0 (Fr.nil _)
  refine Go.istoreN (Ls' := #[.val (.ref s1), .val (.int (0 : Int32))]) (pc' := 7) C X101 d6_6 rfl rfl ?_
  refine Go.iloadN (pc' := 8) C X101 d6_7 rfl rfl ?_
  refine Go.ifYes (pc' := 17) C X101 d6_8 ((if0 _ _).trans (flt (x := (0 : Int32)) (y := (0 : Int32)) (by decide)).2.1) (by decide) (by decide) ?_
  refine Go.aloadN (pc' := 18) C X101 d6_17 rfl rfl rfl ?_
  refine Go.iloadN (pc' := 19) C X101 d6_18 rfl rfl ?_
  refine Go.iconst (z := (1 : Int32)) (pc' := 20) C X101 d6_19 rfl rfl ?_
  refine Go.iadd (pc' := 21) C X101 d6_20 rfl ?_
  rw [show ((0 : Int32) + (1 : Int32)) = (1 : Int32) from by decide]
  refine Go.callV (y := mN11) (z := mN11) (a := s1) (pc' := 24) C X101 (tw hw 96 rfl) (tw hw 97 rfl) (notFace_at C.2.1 (tw hw 99 rfl)) (tw hw 99 rfl) (tw hw 98 rfl) E0 (by decide) (rm_su112 l Z a0 hw s1 v k x0 x1 cP fm h0 O0 E0 Fv Fc Bx SC SF hP hfm) (tw hw 100 rfl) (tw hw 11 rfl) e101 (argsL := [(.int (1 : Int32))]) (rest := []) (W := 0) rfl rfl pd_24 rfl (Nat.le_of_eq rfl) rfl (by decide) (by decide) (by decide) (by decide) d6_21 rfl ?_
  intro T103 v103 L103 X103 q103
  obtain ⟨r_103, u_103, ku_103, rfl, N103q, K103, B103_0, B103_1, P103_0, P103_1, P103_2, P103_3⟩ := q103
  have N103 := Fr.app N101 N103q
  have n_r_103 : Z.heap.size ≤ r_103 := Nat.le_trans O0.1 B103_0
  have z_r_103 : h0.size ≤ r_103 := Nat.le_trans (Nat.le_refl _) B103_0
  have n_u_103 : Z.heap.size ≤ u_103 := Nat.le_trans O0.1 B103_1
  have z_u_103 : h0.size ≤ u_103 := Nat.le_trans (Nat.le_refl _) B103_1
  have O105 : Ext Z.heap T103.heap := (Ext.keep O0 K103 all0)
  refine Go.callS (y := mN28) (pc' := 27) C X103 (tw hw 118 rfl) (tw hw 119 rfl) (by decide) (rm_oof l Z a0 hw r_103 T103.heap O105 ) (tw hw 120 rfl) (tw hw 73 rfl) rfl (argsL := [(.ref r_103)]) (rest := []) (W := 0) rfl rfl pd_25 rfl (Nat.le_of_eq rfl) rfl (by decide) (by decide) (by decide) (by decide) d6_24 rfl ?_
  intro T104 v104 L104 X104 q104
  obtain ⟨o_104, rfl, N104q, K104, B104_0, P104_0, P104_1⟩ := q104
  have N104 := Fr.app N103 N104q
  have n_o_104 : Z.heap.size ≤ o_104 := Nat.le_trans O105.1 B104_0
  have z_o_104 : h0.size ≤ o_104 := Nat.le_trans (Nat.le_trans (Nat.le_refl _) K103.1) B104_0
  have K106 : Keep h0 T104.heap [] := (((Keep.refl h0 []).trans K103 all0).trans K104 all0)
  have c107 : Exa Z T104.heap r_103 "java/lang/String" := (Exa.keep P103_0 K104)
  have c108 : Fld Z T104.heap r_103 "java/lang/String" "value" "[B" (.ref u_103) := (Fld.keep P103_1 K104 nin0)
  have c109 : Fld Z T104.heap r_103 "java/lang/String" "coder" "B" (.int (0 : Int32)) := (Fld.keep P103_2 K104 nin0)
  have c110 : AL Z T104.heap u_103 ku_103 .byte (by8 [x1]) := (AL.keep P103_3 K104 nin0)
  exact Go.retA C X104 rfl d6_27 rfl rfl rfl ⟨o_104, r_103, u_103, ku_103, rfl, N104, K106, z_o_104, z_r_103, z_u_103, P104_0, P104_1, c107, c108, c109, c110⟩ (by decide) (by decide)
def Q_li21 (Z : State) (v : Addr) (k : ClassId) (x0 : Int32) (x1 : Int32) (h0 : Heap) (rv : Option Value) (h : Heap) (L : List Loc) : Prop := rv = some (.int (1 : Int32)) ∧ L = [] ∧ h = h0
theorem rm_li21 (l : Launch) (Z : State) (a0 : Array Value) (hw : ∀ d ∈ tables_1, d.before a0 Z = true) (v : Addr) (k : ClassId) (x0 : Int32) (x1 : Int32) (h0 : Heap) (O0 : Ext Z.heap h0) (Bx : AL Z h0 v k .byte (by8 [x0, x1])) (hx0 : 0 ≤ x0.toInt ∧ x0.toInt ≤ 255) (hx1 : 0 ≤ x1.toInt ∧ x1.toInt ≤ 255) (qe1 : x1 = (64 : Int32)) :
    Met1 l Z mN15 jdk_43_method_27_code 4 (some .int) ({ frames := 1, cells := 0, slots := 0, locals := 13 } : Room) #[(.ref v), (.int (64 : Int32)), (.int (1 : Int32))] h0 (Q_li21 Z v k x0 x1 h0) := by
  refine Met1.of_body (Ls := #[.val (.ref v), .val (.int (64 : Int32)), .val (.int (1 : Int32)), .unset]) pf_12 (fun m => by first | (simp [entryFrame, mkF, argsToLocals, Value.category]; done) | rfl) ?_
  intro p e s m below meth c T0 C X0 e0
  have N0 : Fr Z.heap.size [] := Fr.nil _
  refine Go.iloadN (pc' := 1) C X0 d12_0 rfl rfl ?_
  refine Go.callS (y := mN13) (pc' := 4) C X0 (tw hw 64 rfl) (tw hw 65 rfl) (by decide) (rm_ce l Z a0 hw  h0 O0 ) (tw hw 66 rfl) (tw hw 62 rfl) e0 (argsL := [(.int (64 : Int32))]) (rest := []) (W := 0) rfl rfl pd_20 rfl (Nat.le_of_eq rfl) rfl (by decide) (by decide) (by decide) (by decide) d12_1 rfl ?_
  intro T101 v101 L101 X101 q101
  obtain ⟨rfl, rfl, e101⟩ := q101
  have N101 := Fr.app N0 (Fr.nil _)
  refine Go.ifYes (pc' := 9) C X101 d12_4 ((if0 _ _).trans (feq (x := (1 : Int32)) (y := (0 : Int32)) (by decide)).2) (by decide) (by decide) ?_
  refine Go.iloadN (pc' := 10) C X101 d12_9 rfl rfl ?_
  refine Go.aloadN (pc' := 11) C X101 d12_10 rfl rfl rfl ?_
  refine Go.alen (z := (2 : Int32)) (pc' := 12) C X101 e101 Bx (by rw [by8_len]; rfl) d12_11 rfl ?_
  refine Go.iconst (z := (1 : Int32)) (pc' := 13) C X101 d12_12 rfl rfl ?_
  refine Go.isub (pc' := 14) C X101 d12_13 rfl ?_
  rw [show ((2 : Int32) - (1 : Int32)) = (1 : Int32) from by decide]
  refine Go.callS (y := mN0) (pc' := 17) C X101 (tw hw 67 rfl) (tw hw 68 rfl) (by decide) (rm_mn l Z a0 hw ((1 : Int32)) h0 O0 ) (tw hw 70 rfl) (tw hw 69 rfl) e101 (argsL := [(.int (1 : Int32)), (.int (1 : Int32))]) (rest := []) (W := 0) rfl rfl pd_17 rfl (Nat.le_of_eq rfl) rfl (by decide) (by decide) (by decide) (by decide) d12_14 rfl ?_
  intro T103 v103 L103 X103 q103
  obtain ⟨rfl, rfl, e103⟩ := q103
  have N103 := Fr.app N101 (Fr.nil _)
  refine Go.istoreN (Ls' := #[.val (.ref v), .val (.int (64 : Int32)), .val (.int (1 : Int32)), .val (.int (1 : Int32))]) (pc' := 18) C X103 d12_17 rfl rfl ?_
  refine Go.iloadN (pc' := 19) C X103 d12_18 rfl rfl ?_
  refine Go.ifNo (pc' := 22) C X103 d12_19 ((if0 _ _).trans (flt (x := (1 : Int32)) (y := (0 : Int32)) (by decide)).1) rfl ?_
  refine Go.aloadN (pc' := 23) C X103 d12_22 rfl rfl rfl ?_
  refine Go.iloadN (pc' := 24) C X103 d12_23 rfl rfl ?_
  refine Go.ldB (i := 1) (v := (.int x1.toInt8.toInt32)) (pc' := 25) C X103 e103 Bx (by decide) (by decide) (by8_get rfl) d12_24 rfl ?_
  refine Go.iloadN (pc' := 26) C X103 d12_25 rfl rfl ?_
  refine Go.i2b (pc' := 27) C X103 d12_26 rfl ?_
  refine Go.icmpNo (pc' := 30) C X103 d12_27 (teq (x := x1.toInt8.toInt32) (y := ((64 : Int32).toInt8.toInt32)) ((b64 hx1).mpr qe1)).2 rfl ?_
  refine Go.iloadN (pc' := 31) C X103 d12_30 rfl rfl ?_
  exact Go.retI C X103 rfl d12_31 (by rw [e103]; exact ⟨rfl, (by simp), rfl⟩) (by decide) (by decide)
def Q_lj21 (Z : State) (s1 : Addr) (v : Addr) (k : ClassId) (x0 : Int32) (x1 : Int32) (cP : Int32) (h0 : Heap) (rv : Option Value) (h : Heap) (L : List Loc) : Prop := rv = some (.int (1 : Int32)) ∧ L = [] ∧ h = h0
theorem rm_lj21 (l : Launch) (Z : State) (a0 : Array Value) (hw : ∀ d ∈ tables_1, d.before a0 Z = true) (s1 : Addr) (v : Addr) (k : ClassId) (x0 : Int32) (x1 : Int32) (cP : Int32) (h0 : Heap) (O0 : Ext Z.heap h0) (E0 : Exa Z h0 s1 "java/lang/String") (Fv : Fld Z h0 s1 "java/lang/String" "value" "[B" (.ref v)) (Fc : Fld Z h0 s1 "java/lang/String" "coder" "B" (.int (0 : Int32))) (Bx : AL Z h0 v k .byte (by8 [x0, x1])) (SC : Sta Z Z.heap "java/lang/String" "COMPACT_STRINGS" "Z" (.int cP)) (hx0 : 0 ≤ x0.toInt ∧ x0.toInt ≤ 255) (hx1 : 0 ≤ x1.toInt ∧ x1.toInt ≤ 255) (qe1 : x1 = (64 : Int32)) (hP : ¬ cP = (0 : Int32)) :
    Met1 l Z mN9 jdk_42_method_83_code 3 (some .int) ({ frames := 2, cells := 0, slots := 0, locals := 28 } : Room) #[(.ref s1), (.int (64 : Int32)), (.int (1 : Int32))] h0 (Q_lj21 Z s1 v k x0 x1 cP h0) := by
  refine Met1.of_body (Ls := #[.val (.ref s1), .val (.int (64 : Int32)), .val (.int (1 : Int32))]) pf_10 (fun m => by first | (simp [entryFrame, mkF, argsToLocals, Value.category]; done) | rfl) ?_
  intro p e s m below meth c T0 C X0 e0
  have N0 : Fr Z.heap.size [] := Fr.nil _
  refine Go.aloadN (pc' := 1) C X0 d10_0 rfl rfl rfl ?_
  refine Go.callV (y := mN7) (z := mN7) (a := s1) (pc' := 4) C X0 (tw hw 55 rfl) (tw hw 56 rfl) (notFace_at C.2.1 (tw hw 58 rfl)) (tw hw 58 rfl) (tw hw 57 rfl) E0 (by decide) (rm_isL l Z a0 hw s1 cP h0 O0 Fc SC hP) (tw hw 59 rfl) (tw hw 11 rfl) e0 (argsL := []) (rest := []) (W := 0) rfl rfl pd_13 rfl (Nat.le_of_eq rfl) rfl (by decide) (by decide) (by decide) (by decide) d10_1 rfl ?_
  intro T101 v101 L101 X101 q101
  obtain ⟨rfl, rfl, e101⟩ := q101
  have N101 := Fr.app N0 (Fr.nil _)
  refine Go.ifNo (pc' := 7) C X101 d10_4 ((if0 _ _).trans (feq (x := (1 : Int32)) (y := (0 : Int32)) (by decide)).1) rfl ?_
  refine Go.aloadN (pc' := 8) C X101 d10_7 rfl rfl rfl ?_
  refine Go.getF (pc' := 11) (host := "") C X101 (Or.inl (tw hw 28 rfl)) Via.refl e101 Fv d10_8 rfl ?_
  intro T103 X103 e103
  refine Go.iloadN (pc' := 12) C X103 d10_11 rfl rfl ?_
  refine Go.iloadN (pc' := 13) C X103 d10_12 rfl rfl ?_
  refine Go.callS (y := mN15) (pc' := 16) C X103 (tw hw 60 rfl) (tw hw 61 rfl) (by decide) (rm_li21 l Z a0 hw v k x0 x1 h0 O0 Bx hx0 hx1 qe1) (tw hw 63 rfl) (tw hw 62 rfl) e103 (argsL := [(.ref v), (.int (64 : Int32)), (.int (1 : Int32))]) (rest := []) (W := 0) rfl rfl pd_21 rfl (Nat.le_of_eq rfl) rfl (by decide) (by decide) (by decide) (by decide) d10_13 rfl ?_
  intro T104 v104 L104 X104 q104
  obtain ⟨rfl, rfl, e104⟩ := q104
  have N104 := Fr.app N101 (Fr.nil _)
  refine Go.goto (pc' := 28) C X104 d10_16 (by decide) (by decide) ?_
  exact Go.retI C X104 rfl d10_28 (by rw [e104]; exact ⟨rfl, (by simp), rfl⟩) (by decide) (by decide)
def Q_lk21 (Z : State) (s1 : Addr) (v : Addr) (k : ClassId) (x0 : Int32) (x1 : Int32) (cP : Int32) (h0 : Heap) (rv : Option Value) (h : Heap) (L : List Loc) : Prop := rv = some (.int (1 : Int32)) ∧ L = [] ∧ h = h0
theorem rm_lk21 (l : Launch) (Z : State) (a0 : Array Value) (hw : ∀ d ∈ tables_1, d.before a0 Z = true) (s1 : Addr) (v : Addr) (k : ClassId) (x0 : Int32) (x1 : Int32) (cP : Int32) (h0 : Heap) (O0 : Ext Z.heap h0) (E0 : Exa Z h0 s1 "java/lang/String") (Fv : Fld Z h0 s1 "java/lang/String" "value" "[B" (.ref v)) (Fc : Fld Z h0 s1 "java/lang/String" "coder" "B" (.int (0 : Int32))) (Bx : AL Z h0 v k .byte (by8 [x0, x1])) (SC : Sta Z Z.heap "java/lang/String" "COMPACT_STRINGS" "Z" (.int cP)) (hx0 : 0 ≤ x0.toInt ∧ x0.toInt ≤ 255) (hx1 : 0 ≤ x1.toInt ∧ x1.toInt ≤ 255) (qe1 : x1 = (64 : Int32)) (hP : ¬ cP = (0 : Int32)) :
    Met1 l Z mN8 jdk_42_method_82_code 2 (some .int) ({ frames := 3, cells := 0, slots := 0, locals := 42 } : Room) #[(.ref s1), (.int (64 : Int32))] h0 (Q_lk21 Z s1 v k x0 x1 cP h0) := by
  refine Met1.of_body (Ls := #[.val (.ref s1), .val (.int (64 : Int32))]) pf_7 (fun m => by first | (simp [entryFrame, mkF, argsToLocals, Value.category]; done) | rfl) ?_
  intro p e s m below meth c T0 C X0 e0
  have N0 : Fr Z.heap.size [] := Fr.nil _
  refine Go.aloadN (pc' := 1) C X0 d7_0 rfl rfl rfl ?_
  refine Go.iloadN (pc' := 2) C X0 d7_1 rfl rfl ?_
  refine Go.aloadN (pc' := 3) C X0 d7_2 rfl rfl rfl ?_
  refine Go.callV (y := mN10) (z := mN10) (a := s1) (pc' := 6) C X0 (tw hw 39 rfl) (tw hw 40 rfl) (notFace_at C.2.1 (tw hw 42 rfl)) (tw hw 42 rfl) (tw hw 41 rfl) E0 (by decide) (rm_len l Z a0 hw s1 v k ([x0, x1]) cP ((2 : Int32)) h0 O0 E0 Fv Fc Bx SC hP rfl) (tw hw 43 rfl) (tw hw 11 rfl) e0 (argsL := []) (rest := [(.int (64 : Int32)), (.ref s1)]) (W := 2) rfl rfl pd_11 rfl (Nat.le_of_eq rfl) rfl (by decide) (by decide) (by decide) (by decide) d7_3 rfl ?_
  intro T101 v101 L101 X101 q101
  obtain ⟨rfl, rfl, e101⟩ := q101
  have N101 := Fr.app N0 (Fr.nil _)
  refine Go.iconst (z := (1 : Int32)) (pc' := 7) C X101 d7_6 rfl rfl ?_
  refine Go.isub (pc' := 8) C X101 d7_7 rfl ?_
  rw [show ((2 : Int32) - (1 : Int32)) = (1 : Int32) from by decide]
  refine Go.callV (y := mN9) (z := mN9) (a := s1) (pc' := 11) C X101 (tw hw 50 rfl) (tw hw 51 rfl) (notFace_at C.2.1 (tw hw 53 rfl)) (tw hw 53 rfl) (tw hw 52 rfl) E0 (by decide) (rm_lj21 l Z a0 hw s1 v k x0 x1 cP h0 O0 E0 Fv Fc Bx SC hx0 hx1 qe1 hP) (tw hw 54 rfl) (tw hw 11 rfl) e101 (argsL := [(.int (64 : Int32)), (.int (1 : Int32))]) (rest := []) (W := 0) rfl rfl pd_17 rfl (Nat.le_of_eq rfl) rfl (by decide) (by decide) (by decide) (by decide) d7_8 rfl ?_
  intro T102 v102 L102 X102 q102
  obtain ⟨rfl, rfl, e102⟩ := q102
  have N102 := Fr.app N101 (Fr.nil _)
  exact Go.retI C X102 rfl d7_11 (by rw [e102]; exact ⟨rfl, (by simp), rfl⟩) (by decide) (by decide)
def Q_sc21 (Z : State) (s1 : Addr) (v : Addr) (k : ClassId) (x0 : Int32) (x1 : Int32) (cP : Int32) (fm : Value) (h0 : Heap) (rv : Option Value) (h : Heap) (L : List Loc) : Prop := ∃ o : Addr, ∃ r : Addr, ∃ u : Addr, ∃ ku : ClassId, rv = some (.ref o) ∧ Fr Z.heap.size L ∧ Keep h0 h [] ∧ h0.size ≤ o ∧ Exa Z h o "java/util/Optional" ∧ Fld Z h o "java/util/Optional" "value" "Ljava/lang/Object;" (.ref r) ∧ Exa Z h r "java/lang/String" ∧ Fld Z h r "java/lang/String" "value" "[B" (.ref u) ∧ Fld Z h r "java/lang/String" "coder" "B" (.int (0 : Int32)) ∧ AL Z h u ku .byte (by8 [])
theorem rm_sc21 (l : Launch) (Z : State) (a0 : Array Value) (hw : ∀ d ∈ tables_1, d.before a0 Z = true) (s1 : Addr) (v : Addr) (k : ClassId) (x0 : Int32) (x1 : Int32) (cP : Int32) (fm : Value) (h0 : Heap) (O0 : Ext Z.heap h0) (E0 : Exa Z h0 s1 "java/lang/String") (Fv : Fld Z h0 s1 "java/lang/String" "value" "[B" (.ref v)) (Fc : Fld Z h0 s1 "java/lang/String" "coder" "B" (.int (0 : Int32))) (Bx : AL Z h0 v k .byte (by8 [x0, x1])) (SC : Sta Z Z.heap "java/lang/String" "COMPACT_STRINGS" "Z" (.int cP)) (SF : Sta Z Z.heap "jdk/internal/util/Preconditions" "SIOOBE_FORMATTER" "Ljava/util/function/BiFunction;" fm) (hx0 : 0 ≤ x0.toInt ∧ x0.toInt ≤ 255) (hx1 : 0 ≤ x1.toInt ∧ x1.toInt ≤ 255) (qe1 : x1 = (64 : Int32)) (hP : ¬ cP = (0 : Int32)) (hfm : fm.category = 1) :
    Met1H consts_1 [] l Z mN30 prog_20_method_8_code 2 (some (.object "java/util/Optional")) ({ frames := 4, cells := 3, slots := 5, locals := 58 } : Room) #[(.ref s1)] h0 (Q_sc21 Z s1 v k x0 x1 cP fm h0) := by
  refine Met1H.of_body (Ls := #[.val (.ref s1), .unset]) pf_6 (fun m => by first | (simp [entryFrame, mkF, argsToLocals, Value.category]; done) | rfl) ?_
  intro p e s m below meth c T0 C X0 e0 hH0 hsf0
  have Hr0 := CHr.refl hH0
  have N0 : Fr Z.heap.size [] := Fr.nil _
  have Si0 : Sin s s h0 := Sin.start s h0
  refine Go.aloadN (pc' := 1) C X0 d6_0 rfl rfl rfl ?_
  refine Go.bipush (z := (64 : Int32)) (pc' := 3) C X0 d6_1 rfl rfl ?_
  refine Go.callV (y := mN8) (z := mN8) (a := s1) (pc' := 6) C X0 (tw hw 34 rfl) (tw hw 35 rfl) (notFace_at C.2.1 (tw hw 37 rfl)) (tw hw 37 rfl) (tw hw 36 rfl) E0 (by decide) (rm_lk21 l Z a0 hw s1 v k x0 x1 cP h0 O0 E0 Fv Fc Bx SC hx0 hx1 qe1 hP) (tw hw 38 rfl) (tw hw 11 rfl) e0 (argsL := [(.int (64 : Int32))]) (rest := []) (W := 0) rfl rfl pd_22 rfl (Nat.le_of_eq rfl) rfl (by decide) (by decide) (by decide) (by decide) d6_3 rfl ?_
  intro T101 v101 L101 X101 q101
  obtain ⟨rfl, rfl, e101⟩ := q101
  have N101 := Fr.app N0 (Fr.nil _)
  refine Go.istoreN (Ls' := #[.val (.ref s1), .val (.int (1 : Int32))]) (pc' := 7) C X101 d6_6 rfl rfl ?_
  refine Go.iloadN (pc' := 8) C X101 d6_7 rfl rfl ?_
  refine Go.ifYes (pc' := 17) C X101 d6_8 ((if0 _ _).trans (flt (x := (1 : Int32)) (y := (0 : Int32)) (by decide)).2.1) (by decide) (by decide) ?_
  refine Go.aloadN (pc' := 18) C X101 d6_17 rfl rfl rfl ?_
  refine Go.iloadN (pc' := 19) C X101 d6_18 rfl rfl ?_
  refine Go.iconst (z := (1 : Int32)) (pc' := 20) C X101 d6_19 rfl rfl ?_
  refine Go.iadd (pc' := 21) C X101 d6_20 rfl ?_
  rw [show ((1 : Int32) + (1 : Int32)) = (2 : Int32) from by decide]
  refine Go.callVH (y := mN11) (z := mN11) (a := s1) (pc' := 24) C X101 Si0 (EWc hw) Hr0.1 (tw hw 96 rfl) (tw hw 97 rfl) (notFace_at C.2.1 (tw hw 99 rfl)) (tw hw 99 rfl) (tw hw 98 rfl) E0 (by decide) all0 (rm_su122 l Z a0 hw s1 v k x0 x1 cP fm h0 O0 E0 Fv Fc Bx SC SF hP hfm) (tw hw 100 rfl) (tw hw 11 rfl) e101 (argsL := [(.int (2 : Int32))]) (rest := []) (W := 0) rfl rfl pd_24 rfl (Nat.le_of_eq rfl) rfl (by decide) (by decide) (by decide) (by decide) d6_21 rfl ?_
  intro T103 v103 L103 sC103 C103 X103 Si103 hR103 q103
  obtain ⟨r_103, u_103, ku_103, rfl, N103q, K103, P103_0, P103_1, P103_2, P103_3⟩ := q103
  have N103 := Fr.app N101 N103q
  have Hr104 := CHr.trans Hr0 hR103
  have O106 : Ext Z.heap T103.heap := (Ext.keep O0 K103 all0)
  refine Go.callS (y := mN28) (pc' := 27) C103 X103 (tw hw 118 rfl) (tw hw 119 rfl) (by decide) (rm_oof l Z a0 hw r_103 T103.heap O106 ) (tw hw 120 rfl) (tw hw 73 rfl) rfl (argsL := [(.ref r_103)]) (rest := []) (W := 0) rfl rfl pd_25 rfl (Nat.le_of_eq rfl) rfl (by decide) (by decide) (by decide) (by decide) d6_24 rfl ?_
  intro T105 v105 L105 X105 q105
  obtain ⟨o_105, rfl, N105q, K105, B105_0, P105_0, P105_1⟩ := q105
  have N105 := Fr.app N103 N105q
  have Hr107 := CHr.trans Hr104 (CHr.keep K105 all0 Hr104.1)
  have n_o_105 : Z.heap.size ≤ o_105 := Nat.le_trans O106.1 B105_0
  have z_o_105 : h0.size ≤ o_105 := Nat.le_trans (Nat.le_trans (Nat.le_refl _) K103.1) B105_0
  have s_o_105 : Safe Z consts_1 sC103.vm T105.heap o_105 := Safe.keep K105 all0 Hr104.1 (Safe.new B105_0)
  have K108 : Keep h0 T105.heap [] := (((Keep.refl h0 []).trans K103 all0).trans K105 all0)
  have c109 : Exa Z T105.heap r_103 "java/lang/String" := (Exa.keep P103_0 K105)
  have c110 : Fld Z T105.heap r_103 "java/lang/String" "value" "[B" (.ref u_103) := (Fld.keep P103_1 K105 nin0)
  have c111 : Fld Z T105.heap r_103 "java/lang/String" "coder" "B" (.int (0 : Int32)) := (Fld.keep P103_2 K105 nin0)
  have c112 : AL Z T105.heap u_103 ku_103 .byte (by8 []) := (AL.keep P103_3 K105 nin0)
  have Si113 : Sin s sC103 T105.heap := Sin.mono Si103 (Nat.le_trans (Nat.le_refl _) K105.1)
  exact Go.retAH C103 X105 Si113 (EWc hw) Hr107 rfl d6_27 rfl rfl rfl ⟨o_105, r_103, u_103, ku_103, rfl, N105, K108, z_o_105, P105_0, P105_1, c109, c110, c111, c112⟩ (by decide) (by decide)
def Q_li3m (Z : State) (v : Addr) (k : ClassId) (x0 : Int32) (x1 : Int32) (x2 : Int32) (h0 : Heap) (rv : Option Value) (h : Heap) (L : List Loc) : Prop := rv = some (.int (-1 : Int32)) ∧ L = [] ∧ h = h0
theorem rm_li3m (l : Launch) (Z : State) (a0 : Array Value) (hw : ∀ d ∈ tables_1, d.before a0 Z = true) (v : Addr) (k : ClassId) (x0 : Int32) (x1 : Int32) (x2 : Int32) (h0 : Heap) (O0 : Ext Z.heap h0) (Bx : AL Z h0 v k .byte (by8 [x0, x1, x2])) (hx0 : 0 ≤ x0.toInt ∧ x0.toInt ≤ 255) (hx1 : 0 ≤ x1.toInt ∧ x1.toInt ≤ 255) (hx2 : 0 ≤ x2.toInt ∧ x2.toInt ≤ 255) (qe0 : ¬ x0 = (64 : Int32)) (qe1 : ¬ x1 = (64 : Int32)) (qe2 : ¬ x2 = (64 : Int32)) :
    Met1 l Z mN15 jdk_43_method_27_code 4 (some .int) ({ frames := 1, cells := 0, slots := 0, locals := 13 } : Room) #[(.ref v), (.int (64 : Int32)), (.int (2 : Int32))] h0 (Q_li3m Z v k x0 x1 x2 h0) := by
  refine Met1.of_body (Ls := #[.val (.ref v), .val (.int (64 : Int32)), .val (.int (2 : Int32)), .unset]) pf_12 (fun m => by first | (simp [entryFrame, mkF, argsToLocals, Value.category]; done) | rfl) ?_
  intro p e s m below meth c T0 C X0 e0
  have N0 : Fr Z.heap.size [] := Fr.nil _
  refine Go.iloadN (pc' := 1) C X0 d12_0 rfl rfl ?_
  refine Go.callS (y := mN13) (pc' := 4) C X0 (tw hw 64 rfl) (tw hw 65 rfl) (by decide) (rm_ce l Z a0 hw  h0 O0 ) (tw hw 66 rfl) (tw hw 62 rfl) e0 (argsL := [(.int (64 : Int32))]) (rest := []) (W := 0) rfl rfl pd_20 rfl (Nat.le_of_eq rfl) rfl (by decide) (by decide) (by decide) (by decide) d12_1 rfl ?_
  intro T101 v101 L101 X101 q101
  obtain ⟨rfl, rfl, e101⟩ := q101
  have N101 := Fr.app N0 (Fr.nil _)
  refine Go.ifYes (pc' := 9) C X101 d12_4 ((if0 _ _).trans (feq (x := (1 : Int32)) (y := (0 : Int32)) (by decide)).2) (by decide) (by decide) ?_
  refine Go.iloadN (pc' := 10) C X101 d12_9 rfl rfl ?_
  refine Go.aloadN (pc' := 11) C X101 d12_10 rfl rfl rfl ?_
  refine Go.alen (z := (3 : Int32)) (pc' := 12) C X101 e101 Bx (by rw [by8_len]; rfl) d12_11 rfl ?_
  refine Go.iconst (z := (1 : Int32)) (pc' := 13) C X101 d12_12 rfl rfl ?_
  refine Go.isub (pc' := 14) C X101 d12_13 rfl ?_
  rw [show ((3 : Int32) - (1 : Int32)) = (2 : Int32) from by decide]
  refine Go.callS (y := mN0) (pc' := 17) C X101 (tw hw 67 rfl) (tw hw 68 rfl) (by decide) (rm_mn l Z a0 hw ((2 : Int32)) h0 O0 ) (tw hw 70 rfl) (tw hw 69 rfl) e101 (argsL := [(.int (2 : Int32)), (.int (2 : Int32))]) (rest := []) (W := 0) rfl rfl pd_17 rfl (Nat.le_of_eq rfl) rfl (by decide) (by decide) (by decide) (by decide) d12_14 rfl ?_
  intro T103 v103 L103 X103 q103
  obtain ⟨rfl, rfl, e103⟩ := q103
  have N103 := Fr.app N101 (Fr.nil _)
  refine Go.istoreN (Ls' := #[.val (.ref v), .val (.int (64 : Int32)), .val (.int (2 : Int32)), .val (.int (2 : Int32))]) (pc' := 18) C X103 d12_17 rfl rfl ?_
  refine Go.iloadN (pc' := 19) C X103 d12_18 rfl rfl ?_
  refine Go.ifNo (pc' := 22) C X103 d12_19 ((if0 _ _).trans (flt (x := (2 : Int32)) (y := (0 : Int32)) (by decide)).1) rfl ?_
  refine Go.aloadN (pc' := 23) C X103 d12_22 rfl rfl rfl ?_
  refine Go.iloadN (pc' := 24) C X103 d12_23 rfl rfl ?_
  refine Go.ldB (i := 2) (v := (.int x2.toInt8.toInt32)) (pc' := 25) C X103 e103 Bx (by decide) (by decide) (by8_get rfl) d12_24 rfl ?_
  refine Go.iloadN (pc' := 26) C X103 d12_25 rfl rfl ?_
  refine Go.i2b (pc' := 27) C X103 d12_26 rfl ?_
  refine Go.icmpYes (pc' := 32) C X103 d12_27 (feq (x := x2.toInt8.toInt32) (y := ((64 : Int32).toInt8.toInt32)) (fun q => qe2 ((b64 hx2).mp q))).2 (by decide) (by decide) ?_
  refine Go.iinc (Ls' := #[.val (.ref v), .val (.int (64 : Int32)), .val (.int (2 : Int32)), .val (.int ((2 : Int32) + (-1 : Int32)))]) (z := (-1 : Int32)) (pc' := 35) C X103 d12_32 rfl rfl rfl rfl ?_
  rw [show ((2 : Int32) + (-1 : Int32)) = (1 : Int32) from by decide]
  refine Go.goto (pc' := 18) C X103 d12_35 (by decide) (by decide) ?_
  refine Go.iloadN (pc' := 19) C X103 d12_18 rfl rfl ?_
  refine Go.ifNo (pc' := 22) C X103 d12_19 ((if0 _ _).trans (flt (x := (1 : Int32)) (y := (0 : Int32)) (by decide)).1) rfl ?_
  refine Go.aloadN (pc' := 23) C X103 d12_22 rfl rfl rfl ?_
  refine Go.iloadN (pc' := 24) C X103 d12_23 rfl rfl ?_
  refine Go.ldB (i := 1) (v := (.int x1.toInt8.toInt32)) (pc' := 25) C X103 e103 Bx (by decide) (by decide) (by8_get rfl) d12_24 rfl ?_
  refine Go.iloadN (pc' := 26) C X103 d12_25 rfl rfl ?_
  refine Go.i2b (pc' := 27) C X103 d12_26 rfl ?_
  refine Go.icmpYes (pc' := 32) C X103 d12_27 (feq (x := x1.toInt8.toInt32) (y := ((64 : Int32).toInt8.toInt32)) (fun q => qe1 ((b64 hx1).mp q))).2 (by decide) (by decide) ?_
  refine Go.iinc (Ls' := #[.val (.ref v), .val (.int (64 : Int32)), .val (.int (2 : Int32)), .val (.int ((1 : Int32) + (-1 : Int32)))]) (z := (-1 : Int32)) (pc' := 35) C X103 d12_32 rfl rfl rfl rfl ?_
  rw [show ((1 : Int32) + (-1 : Int32)) = (0 : Int32) from by decide]
  refine Go.goto (pc' := 18) C X103 d12_35 (by decide) (by decide) ?_
  refine Go.iloadN (pc' := 19) C X103 d12_18 rfl rfl ?_
  refine Go.ifNo (pc' := 22) C X103 d12_19 ((if0 _ _).trans (flt (x := (0 : Int32)) (y := (0 : Int32)) (by decide)).1) rfl ?_
  refine Go.aloadN (pc' := 23) C X103 d12_22 rfl rfl rfl ?_
  refine Go.iloadN (pc' := 24) C X103 d12_23 rfl rfl ?_
  refine Go.ldB (i := 0) (v := (.int x0.toInt8.toInt32)) (pc' := 25) C X103 e103 Bx (by decide) (by decide) (by8_get rfl) d12_24 rfl ?_
  refine Go.iloadN (pc' := 26) C X103 d12_25 rfl rfl ?_
  refine Go.i2b (pc' := 27) C X103 d12_26 rfl ?_
  refine Go.icmpYes (pc' := 32) C X103 d12_27 (feq (x := x0.toInt8.toInt32) (y := ((64 : Int32).toInt8.toInt32)) (fun q => qe0 ((b64 hx0).mp q))).2 (by decide) (by decide) ?_
  refine Go.iinc (Ls' := #[.val (.ref v), .val (.int (64 : Int32)), .val (.int (2 : Int32)), .val (.int ((0 : Int32) + (-1 : Int32)))]) (z := (-1 : Int32)) (pc' := 35) C X103 d12_32 rfl rfl rfl rfl ?_
  rw [show ((0 : Int32) + (-1 : Int32)) = (-1 : Int32) from by decide]
  refine Go.goto (pc' := 18) C X103 d12_35 (by decide) (by decide) ?_
  refine Go.iloadN (pc' := 19) C X103 d12_18 rfl rfl ?_
  refine Go.ifYes (pc' := 38) C X103 d12_19 ((if0 _ _).trans (tlt (x := (-1 : Int32)) (y := (0 : Int32)) (by decide)).1) (by decide) (by decide) ?_
  refine Go.iconst (z := (-1 : Int32)) (pc' := 39) C X103 d12_38 rfl rfl ?_
  exact Go.retI C X103 rfl d12_39 (by rw [e103]; exact ⟨rfl, (by simp), rfl⟩) (by decide) (by decide)
def Q_lj3m (Z : State) (s1 : Addr) (v : Addr) (k : ClassId) (x0 : Int32) (x1 : Int32) (x2 : Int32) (cP : Int32) (h0 : Heap) (rv : Option Value) (h : Heap) (L : List Loc) : Prop := rv = some (.int (-1 : Int32)) ∧ L = [] ∧ h = h0
theorem rm_lj3m (l : Launch) (Z : State) (a0 : Array Value) (hw : ∀ d ∈ tables_1, d.before a0 Z = true) (s1 : Addr) (v : Addr) (k : ClassId) (x0 : Int32) (x1 : Int32) (x2 : Int32) (cP : Int32) (h0 : Heap) (O0 : Ext Z.heap h0) (E0 : Exa Z h0 s1 "java/lang/String") (Fv : Fld Z h0 s1 "java/lang/String" "value" "[B" (.ref v)) (Fc : Fld Z h0 s1 "java/lang/String" "coder" "B" (.int (0 : Int32))) (Bx : AL Z h0 v k .byte (by8 [x0, x1, x2])) (SC : Sta Z Z.heap "java/lang/String" "COMPACT_STRINGS" "Z" (.int cP)) (hx0 : 0 ≤ x0.toInt ∧ x0.toInt ≤ 255) (hx1 : 0 ≤ x1.toInt ∧ x1.toInt ≤ 255) (hx2 : 0 ≤ x2.toInt ∧ x2.toInt ≤ 255) (qe0 : ¬ x0 = (64 : Int32)) (qe1 : ¬ x1 = (64 : Int32)) (qe2 : ¬ x2 = (64 : Int32)) (hP : ¬ cP = (0 : Int32)) :
    Met1 l Z mN9 jdk_42_method_83_code 3 (some .int) ({ frames := 2, cells := 0, slots := 0, locals := 28 } : Room) #[(.ref s1), (.int (64 : Int32)), (.int (2 : Int32))] h0 (Q_lj3m Z s1 v k x0 x1 x2 cP h0) := by
  refine Met1.of_body (Ls := #[.val (.ref s1), .val (.int (64 : Int32)), .val (.int (2 : Int32))]) pf_10 (fun m => by first | (simp [entryFrame, mkF, argsToLocals, Value.category]; done) | rfl) ?_
  intro p e s m below meth c T0 C X0 e0
  have N0 : Fr Z.heap.size [] := Fr.nil _
  refine Go.aloadN (pc' := 1) C X0 d10_0 rfl rfl rfl ?_
  refine Go.callV (y := mN7) (z := mN7) (a := s1) (pc' := 4) C X0 (tw hw 55 rfl) (tw hw 56 rfl) (notFace_at C.2.1 (tw hw 58 rfl)) (tw hw 58 rfl) (tw hw 57 rfl) E0 (by decide) (rm_isL l Z a0 hw s1 cP h0 O0 Fc SC hP) (tw hw 59 rfl) (tw hw 11 rfl) e0 (argsL := []) (rest := []) (W := 0) rfl rfl pd_13 rfl (Nat.le_of_eq rfl) rfl (by decide) (by decide) (by decide) (by decide) d10_1 rfl ?_
  intro T101 v101 L101 X101 q101
  obtain ⟨rfl, rfl, e101⟩ := q101
  have N101 := Fr.app N0 (Fr.nil _)
  refine Go.ifNo (pc' := 7) C X101 d10_4 ((if0 _ _).trans (feq (x := (1 : Int32)) (y := (0 : Int32)) (by decide)).1) rfl ?_
  refine Go.aloadN (pc' := 8) C X101 d10_7 rfl rfl rfl ?_
  refine Go.getF (pc' := 11) (host := "") C X101 (Or.inl (tw hw 28 rfl)) Via.refl e101 Fv d10_8 rfl ?_
  intro T103 X103 e103
  refine Go.iloadN (pc' := 12) C X103 d10_11 rfl rfl ?_
  refine Go.iloadN (pc' := 13) C X103 d10_12 rfl rfl ?_
  refine Go.callS (y := mN15) (pc' := 16) C X103 (tw hw 60 rfl) (tw hw 61 rfl) (by decide) (rm_li3m l Z a0 hw v k x0 x1 x2 h0 O0 Bx hx0 hx1 hx2 qe0 qe1 qe2) (tw hw 63 rfl) (tw hw 62 rfl) e103 (argsL := [(.ref v), (.int (64 : Int32)), (.int (2 : Int32))]) (rest := []) (W := 0) rfl rfl pd_21 rfl (Nat.le_of_eq rfl) rfl (by decide) (by decide) (by decide) (by decide) d10_13 rfl ?_
  intro T104 v104 L104 X104 q104
  obtain ⟨rfl, rfl, e104⟩ := q104
  have N104 := Fr.app N101 (Fr.nil _)
  refine Go.goto (pc' := 28) C X104 d10_16 (by decide) (by decide) ?_
  exact Go.retI C X104 rfl d10_28 (by rw [e104]; exact ⟨rfl, (by simp), rfl⟩) (by decide) (by decide)
def Q_lk3m (Z : State) (s1 : Addr) (v : Addr) (k : ClassId) (x0 : Int32) (x1 : Int32) (x2 : Int32) (cP : Int32) (h0 : Heap) (rv : Option Value) (h : Heap) (L : List Loc) : Prop := rv = some (.int (-1 : Int32)) ∧ L = [] ∧ h = h0
theorem rm_lk3m (l : Launch) (Z : State) (a0 : Array Value) (hw : ∀ d ∈ tables_1, d.before a0 Z = true) (s1 : Addr) (v : Addr) (k : ClassId) (x0 : Int32) (x1 : Int32) (x2 : Int32) (cP : Int32) (h0 : Heap) (O0 : Ext Z.heap h0) (E0 : Exa Z h0 s1 "java/lang/String") (Fv : Fld Z h0 s1 "java/lang/String" "value" "[B" (.ref v)) (Fc : Fld Z h0 s1 "java/lang/String" "coder" "B" (.int (0 : Int32))) (Bx : AL Z h0 v k .byte (by8 [x0, x1, x2])) (SC : Sta Z Z.heap "java/lang/String" "COMPACT_STRINGS" "Z" (.int cP)) (hx0 : 0 ≤ x0.toInt ∧ x0.toInt ≤ 255) (hx1 : 0 ≤ x1.toInt ∧ x1.toInt ≤ 255) (hx2 : 0 ≤ x2.toInt ∧ x2.toInt ≤ 255) (qe0 : ¬ x0 = (64 : Int32)) (qe1 : ¬ x1 = (64 : Int32)) (qe2 : ¬ x2 = (64 : Int32)) (hP : ¬ cP = (0 : Int32)) :
    Met1 l Z mN8 jdk_42_method_82_code 2 (some .int) ({ frames := 3, cells := 0, slots := 0, locals := 42 } : Room) #[(.ref s1), (.int (64 : Int32))] h0 (Q_lk3m Z s1 v k x0 x1 x2 cP h0) := by
  refine Met1.of_body (Ls := #[.val (.ref s1), .val (.int (64 : Int32))]) pf_7 (fun m => by first | (simp [entryFrame, mkF, argsToLocals, Value.category]; done) | rfl) ?_
  intro p e s m below meth c T0 C X0 e0
  have N0 : Fr Z.heap.size [] := Fr.nil _
  refine Go.aloadN (pc' := 1) C X0 d7_0 rfl rfl rfl ?_
  refine Go.iloadN (pc' := 2) C X0 d7_1 rfl rfl ?_
  refine Go.aloadN (pc' := 3) C X0 d7_2 rfl rfl rfl ?_
  refine Go.callV (y := mN10) (z := mN10) (a := s1) (pc' := 6) C X0 (tw hw 39 rfl) (tw hw 40 rfl) (notFace_at C.2.1 (tw hw 42 rfl)) (tw hw 42 rfl) (tw hw 41 rfl) E0 (by decide) (rm_len l Z a0 hw s1 v k ([x0, x1, x2]) cP ((3 : Int32)) h0 O0 E0 Fv Fc Bx SC hP rfl) (tw hw 43 rfl) (tw hw 11 rfl) e0 (argsL := []) (rest := [(.int (64 : Int32)), (.ref s1)]) (W := 2) rfl rfl pd_11 rfl (Nat.le_of_eq rfl) rfl (by decide) (by decide) (by decide) (by decide) d7_3 rfl ?_
  intro T101 v101 L101 X101 q101
  obtain ⟨rfl, rfl, e101⟩ := q101
  have N101 := Fr.app N0 (Fr.nil _)
  refine Go.iconst (z := (1 : Int32)) (pc' := 7) C X101 d7_6 rfl rfl ?_
  refine Go.isub (pc' := 8) C X101 d7_7 rfl ?_
  rw [show ((3 : Int32) - (1 : Int32)) = (2 : Int32) from by decide]
  refine Go.callV (y := mN9) (z := mN9) (a := s1) (pc' := 11) C X101 (tw hw 50 rfl) (tw hw 51 rfl) (notFace_at C.2.1 (tw hw 53 rfl)) (tw hw 53 rfl) (tw hw 52 rfl) E0 (by decide) (rm_lj3m l Z a0 hw s1 v k x0 x1 x2 cP h0 O0 E0 Fv Fc Bx SC hx0 hx1 hx2 qe0 qe1 qe2 hP) (tw hw 54 rfl) (tw hw 11 rfl) e101 (argsL := [(.int (64 : Int32)), (.int (2 : Int32))]) (rest := []) (W := 0) rfl rfl pd_17 rfl (Nat.le_of_eq rfl) rfl (by decide) (by decide) (by decide) (by decide) d7_8 rfl ?_
  intro T102 v102 L102 X102 q102
  obtain ⟨rfl, rfl, e102⟩ := q102
  have N102 := Fr.app N101 (Fr.nil _)
  exact Go.retI C X102 rfl d7_11 (by rw [e102]; exact ⟨rfl, (by simp), rfl⟩) (by decide) (by decide)
def Q_sc3m (Z : State) (s1 : Addr) (v : Addr) (k : ClassId) (x0 : Int32) (x1 : Int32) (x2 : Int32) (cP : Int32) (em : Addr) (h0 : Heap) (rv : Option Value) (h : Heap) (L : List Loc) : Prop := rv = some (.ref em) ∧ L = [] ∧ h = h0
theorem rm_sc3m (l : Launch) (Z : State) (a0 : Array Value) (hw : ∀ d ∈ tables_1, d.before a0 Z = true) (s1 : Addr) (v : Addr) (k : ClassId) (x0 : Int32) (x1 : Int32) (x2 : Int32) (cP : Int32) (em : Addr) (h0 : Heap) (O0 : Ext Z.heap h0) (E0 : Exa Z h0 s1 "java/lang/String") (Fv : Fld Z h0 s1 "java/lang/String" "value" "[B" (.ref v)) (Fc : Fld Z h0 s1 "java/lang/String" "coder" "B" (.int (0 : Int32))) (Bx : AL Z h0 v k .byte (by8 [x0, x1, x2])) (SC : Sta Z Z.heap "java/lang/String" "COMPACT_STRINGS" "Z" (.int cP)) (SE : Sta Z Z.heap "java/util/Optional" "EMPTY" "Ljava/util/Optional;" (.ref em)) (hx0 : 0 ≤ x0.toInt ∧ x0.toInt ≤ 255) (hx1 : 0 ≤ x1.toInt ∧ x1.toInt ≤ 255) (hx2 : 0 ≤ x2.toInt ∧ x2.toInt ≤ 255) (qe0 : ¬ x0 = (64 : Int32)) (qe1 : ¬ x1 = (64 : Int32)) (qe2 : ¬ x2 = (64 : Int32)) (hP : ¬ cP = (0 : Int32)) :
    Met1 l Z mN30 prog_20_method_8_code 2 (some (.object "java/util/Optional")) ({ frames := 4, cells := 0, slots := 0, locals := 55 } : Room) #[(.ref s1)] h0 (Q_sc3m Z s1 v k x0 x1 x2 cP em h0) := by
  refine Met1.of_body (Ls := #[.val (.ref s1), .unset]) pf_6 (fun m => by first | (simp [entryFrame, mkF, argsToLocals, Value.category]; done) | rfl) ?_
  intro p e s m below meth c T0 C X0 e0
  have N0 : Fr Z.heap.size [] := Fr.nil _
  refine Go.aloadN (pc' := 1) C X0 d6_0 rfl rfl rfl ?_
  refine Go.bipush (z := (64 : Int32)) (pc' := 3) C X0 d6_1 rfl rfl ?_
  refine Go.callV (y := mN8) (z := mN8) (a := s1) (pc' := 6) C X0 (tw hw 34 rfl) (tw hw 35 rfl) (notFace_at C.2.1 (tw hw 37 rfl)) (tw hw 37 rfl) (tw hw 36 rfl) E0 (by decide) (rm_lk3m l Z a0 hw s1 v k x0 x1 x2 cP h0 O0 E0 Fv Fc Bx SC hx0 hx1 hx2 qe0 qe1 qe2 hP) (tw hw 38 rfl) (tw hw 11 rfl) e0 (argsL := [(.int (64 : Int32))]) (rest := []) (W := 0) rfl rfl pd_22 rfl (Nat.le_of_eq rfl) rfl (by decide) (by decide) (by decide) (by decide) d6_3 rfl ?_
  intro T101 v101 L101 X101 q101
  obtain ⟨rfl, rfl, e101⟩ := q101
  have N101 := Fr.app N0 (Fr.nil _)
  refine Go.istoreN (Ls' := #[.val (.ref s1), .val (.int (-1 : Int32))]) (pc' := 7) C X101 d6_6 rfl rfl ?_
  refine Go.iloadN (pc' := 8) C X101 d6_7 rfl rfl ?_
  refine Go.ifNo (pc' := 11) C X101 d6_8 ((if0 _ _).trans (tlt (x := (-1 : Int32)) (y := (0 : Int32)) (by decide)).2.1) rfl ?_
  refine Go.callS (y := mN25) (pc' := 14) C X101 (tw hw 71 rfl) (tw hw 72 rfl) (by decide) (rm_oem l Z a0 hw em h0 O0 SE) (tw hw 74 rfl) (tw hw 73 rfl) e101 (argsL := []) (rest := []) (W := 0) rfl rfl pd_23 rfl (Nat.le_of_eq rfl) rfl (by decide) (by decide) (by decide) (by decide) d6_11 rfl ?_
  intro T103 v103 L103 X103 q103
  obtain ⟨rfl, rfl, e103⟩ := q103
  have N103 := Fr.app N101 (Fr.nil _)
  refine Go.goto (pc' := 27) C X103 d6_14 (by decide) (by decide) ?_
  exact Go.retA C X103 rfl d6_27 rfl rfl rfl (by rw [e103]; exact ⟨rfl, (by simp), rfl⟩) (by decide) (by decide)
def Q_li30 (Z : State) (v : Addr) (k : ClassId) (x0 : Int32) (x1 : Int32) (x2 : Int32) (h0 : Heap) (rv : Option Value) (h : Heap) (L : List Loc) : Prop := rv = some (.int (0 : Int32)) ∧ L = [] ∧ h = h0
theorem rm_li30 (l : Launch) (Z : State) (a0 : Array Value) (hw : ∀ d ∈ tables_1, d.before a0 Z = true) (v : Addr) (k : ClassId) (x0 : Int32) (x1 : Int32) (x2 : Int32) (h0 : Heap) (O0 : Ext Z.heap h0) (Bx : AL Z h0 v k .byte (by8 [x0, x1, x2])) (hx0 : 0 ≤ x0.toInt ∧ x0.toInt ≤ 255) (hx1 : 0 ≤ x1.toInt ∧ x1.toInt ≤ 255) (hx2 : 0 ≤ x2.toInt ∧ x2.toInt ≤ 255) (qe0 : x0 = (64 : Int32)) (qe1 : ¬ x1 = (64 : Int32)) (qe2 : ¬ x2 = (64 : Int32)) :
    Met1 l Z mN15 jdk_43_method_27_code 4 (some .int) ({ frames := 1, cells := 0, slots := 0, locals := 13 } : Room) #[(.ref v), (.int (64 : Int32)), (.int (2 : Int32))] h0 (Q_li30 Z v k x0 x1 x2 h0) := by
  refine Met1.of_body (Ls := #[.val (.ref v), .val (.int (64 : Int32)), .val (.int (2 : Int32)), .unset]) pf_12 (fun m => by first | (simp [entryFrame, mkF, argsToLocals, Value.category]; done) | rfl) ?_
  intro p e s m below meth c T0 C X0 e0
  have N0 : Fr Z.heap.size [] := Fr.nil _
  refine Go.iloadN (pc' := 1) C X0 d12_0 rfl rfl ?_
  refine Go.callS (y := mN13) (pc' := 4) C X0 (tw hw 64 rfl) (tw hw 65 rfl) (by decide) (rm_ce l Z a0 hw  h0 O0 ) (tw hw 66 rfl) (tw hw 62 rfl) e0 (argsL := [(.int (64 : Int32))]) (rest := []) (W := 0) rfl rfl pd_20 rfl (Nat.le_of_eq rfl) rfl (by decide) (by decide) (by decide) (by decide) d12_1 rfl ?_
  intro T101 v101 L101 X101 q101
  obtain ⟨rfl, rfl, e101⟩ := q101
  have N101 := Fr.app N0 (Fr.nil _)
  refine Go.ifYes (pc' := 9) C X101 d12_4 ((if0 _ _).trans (feq (x := (1 : Int32)) (y := (0 : Int32)) (by decide)).2) (by decide) (by decide) ?_
  refine Go.iloadN (pc' := 10) C X101 d12_9 rfl rfl ?_
  refine Go.aloadN (pc' := 11) C X101 d12_10 rfl rfl rfl ?_
  refine Go.alen (z := (3 : Int32)) (pc' := 12) C X101 e101 Bx (by rw [by8_len]; rfl) d12_11 rfl ?_
  refine Go.iconst (z := (1 : Int32)) (pc' := 13) C X101 d12_12 rfl rfl ?_
  refine Go.isub (pc' := 14) C X101 d12_13 rfl ?_
  rw [show ((3 : Int32) - (1 : Int32)) = (2 : Int32) from by decide]
  refine Go.callS (y := mN0) (pc' := 17) C X101 (tw hw 67 rfl) (tw hw 68 rfl) (by decide) (rm_mn l Z a0 hw ((2 : Int32)) h0 O0 ) (tw hw 70 rfl) (tw hw 69 rfl) e101 (argsL := [(.int (2 : Int32)), (.int (2 : Int32))]) (rest := []) (W := 0) rfl rfl pd_17 rfl (Nat.le_of_eq rfl) rfl (by decide) (by decide) (by decide) (by decide) d12_14 rfl ?_
  intro T103 v103 L103 X103 q103
  obtain ⟨rfl, rfl, e103⟩ := q103
  have N103 := Fr.app N101 (Fr.nil _)
  refine Go.istoreN (Ls' := #[.val (.ref v), .val (.int (64 : Int32)), .val (.int (2 : Int32)), .val (.int (2 : Int32))]) (pc' := 18) C X103 d12_17 rfl rfl ?_
  refine Go.iloadN (pc' := 19) C X103 d12_18 rfl rfl ?_
  refine Go.ifNo (pc' := 22) C X103 d12_19 ((if0 _ _).trans (flt (x := (2 : Int32)) (y := (0 : Int32)) (by decide)).1) rfl ?_
  refine Go.aloadN (pc' := 23) C X103 d12_22 rfl rfl rfl ?_
  refine Go.iloadN (pc' := 24) C X103 d12_23 rfl rfl ?_
  refine Go.ldB (i := 2) (v := (.int x2.toInt8.toInt32)) (pc' := 25) C X103 e103 Bx (by decide) (by decide) (by8_get rfl) d12_24 rfl ?_
  refine Go.iloadN (pc' := 26) C X103 d12_25 rfl rfl ?_
  refine Go.i2b (pc' := 27) C X103 d12_26 rfl ?_
  refine Go.icmpYes (pc' := 32) C X103 d12_27 (feq (x := x2.toInt8.toInt32) (y := ((64 : Int32).toInt8.toInt32)) (fun q => qe2 ((b64 hx2).mp q))).2 (by decide) (by decide) ?_
  refine Go.iinc (Ls' := #[.val (.ref v), .val (.int (64 : Int32)), .val (.int (2 : Int32)), .val (.int ((2 : Int32) + (-1 : Int32)))]) (z := (-1 : Int32)) (pc' := 35) C X103 d12_32 rfl rfl rfl rfl ?_
  rw [show ((2 : Int32) + (-1 : Int32)) = (1 : Int32) from by decide]
  refine Go.goto (pc' := 18) C X103 d12_35 (by decide) (by decide) ?_
  refine Go.iloadN (pc' := 19) C X103 d12_18 rfl rfl ?_
  refine Go.ifNo (pc' := 22) C X103 d12_19 ((if0 _ _).trans (flt (x := (1 : Int32)) (y := (0 : Int32)) (by decide)).1) rfl ?_
  refine Go.aloadN (pc' := 23) C X103 d12_22 rfl rfl rfl ?_
  refine Go.iloadN (pc' := 24) C X103 d12_23 rfl rfl ?_
  refine Go.ldB (i := 1) (v := (.int x1.toInt8.toInt32)) (pc' := 25) C X103 e103 Bx (by decide) (by decide) (by8_get rfl) d12_24 rfl ?_
  refine Go.iloadN (pc' := 26) C X103 d12_25 rfl rfl ?_
  refine Go.i2b (pc' := 27) C X103 d12_26 rfl ?_
  refine Go.icmpYes (pc' := 32) C X103 d12_27 (feq (x := x1.toInt8.toInt32) (y := ((64 : Int32).toInt8.toInt32)) (fun q => qe1 ((b64 hx1).mp q))).2 (by decide) (by decide) ?_
  refine Go.iinc (Ls' := #[.val (.ref v), .val (.int (64 : Int32)), .val (.int (2 : Int32)), .val (.int ((1 : Int32) + (-1 : Int32)))]) (z := (-1 : Int32)) (pc' := 35) C X103 d12_32 rfl rfl rfl rfl ?_
  rw [show ((1 : Int32) + (-1 : Int32)) = (0 : Int32) from by decide]
  refine Go.goto (pc' := 18) C X103 d12_35 (by decide) (by decide) ?_
  refine Go.iloadN (pc' := 19) C X103 d12_18 rfl rfl ?_
  refine Go.ifNo (pc' := 22) C X103 d12_19 ((if0 _ _).trans (flt (x := (0 : Int32)) (y := (0 : Int32)) (by decide)).1) rfl ?_
  refine Go.aloadN (pc' := 23) C X103 d12_22 rfl rfl rfl ?_
  refine Go.iloadN (pc' := 24) C X103 d12_23 rfl rfl ?_
  refine Go.ldB (i := 0) (v := (.int x0.toInt8.toInt32)) (pc' := 25) C X103 e103 Bx (by decide) (by decide) (by8_get rfl) d12_24 rfl ?_
  refine Go.iloadN (pc' := 26) C X103 d12_25 rfl rfl ?_
  refine Go.i2b (pc' := 27) C X103 d12_26 rfl ?_
  refine Go.icmpNo (pc' := 30) C X103 d12_27 (teq (x := x0.toInt8.toInt32) (y := ((64 : Int32).toInt8.toInt32)) ((b64 hx0).mpr qe0)).2 rfl ?_
  refine Go.iloadN (pc' := 31) C X103 d12_30 rfl rfl ?_
  exact Go.retI C X103 rfl d12_31 (by rw [e103]; exact ⟨rfl, (by simp), rfl⟩) (by decide) (by decide)
def Q_lj30 (Z : State) (s1 : Addr) (v : Addr) (k : ClassId) (x0 : Int32) (x1 : Int32) (x2 : Int32) (cP : Int32) (h0 : Heap) (rv : Option Value) (h : Heap) (L : List Loc) : Prop := rv = some (.int (0 : Int32)) ∧ L = [] ∧ h = h0
theorem rm_lj30 (l : Launch) (Z : State) (a0 : Array Value) (hw : ∀ d ∈ tables_1, d.before a0 Z = true) (s1 : Addr) (v : Addr) (k : ClassId) (x0 : Int32) (x1 : Int32) (x2 : Int32) (cP : Int32) (h0 : Heap) (O0 : Ext Z.heap h0) (E0 : Exa Z h0 s1 "java/lang/String") (Fv : Fld Z h0 s1 "java/lang/String" "value" "[B" (.ref v)) (Fc : Fld Z h0 s1 "java/lang/String" "coder" "B" (.int (0 : Int32))) (Bx : AL Z h0 v k .byte (by8 [x0, x1, x2])) (SC : Sta Z Z.heap "java/lang/String" "COMPACT_STRINGS" "Z" (.int cP)) (hx0 : 0 ≤ x0.toInt ∧ x0.toInt ≤ 255) (hx1 : 0 ≤ x1.toInt ∧ x1.toInt ≤ 255) (hx2 : 0 ≤ x2.toInt ∧ x2.toInt ≤ 255) (qe0 : x0 = (64 : Int32)) (qe1 : ¬ x1 = (64 : Int32)) (qe2 : ¬ x2 = (64 : Int32)) (hP : ¬ cP = (0 : Int32)) :
    Met1 l Z mN9 jdk_42_method_83_code 3 (some .int) ({ frames := 2, cells := 0, slots := 0, locals := 28 } : Room) #[(.ref s1), (.int (64 : Int32)), (.int (2 : Int32))] h0 (Q_lj30 Z s1 v k x0 x1 x2 cP h0) := by
  refine Met1.of_body (Ls := #[.val (.ref s1), .val (.int (64 : Int32)), .val (.int (2 : Int32))]) pf_10 (fun m => by first | (simp [entryFrame, mkF, argsToLocals, Value.category]; done) | rfl) ?_
  intro p e s m below meth c T0 C X0 e0
  have N0 : Fr Z.heap.size [] := Fr.nil _
  refine Go.aloadN (pc' := 1) C X0 d10_0 rfl rfl rfl ?_
  refine Go.callV (y := mN7) (z := mN7) (a := s1) (pc' := 4) C X0 (tw hw 55 rfl) (tw hw 56 rfl) (notFace_at C.2.1 (tw hw 58 rfl)) (tw hw 58 rfl) (tw hw 57 rfl) E0 (by decide) (rm_isL l Z a0 hw s1 cP h0 O0 Fc SC hP) (tw hw 59 rfl) (tw hw 11 rfl) e0 (argsL := []) (rest := []) (W := 0) rfl rfl pd_13 rfl (Nat.le_of_eq rfl) rfl (by decide) (by decide) (by decide) (by decide) d10_1 rfl ?_
  intro T101 v101 L101 X101 q101
  obtain ⟨rfl, rfl, e101⟩ := q101
  have N101 := Fr.app N0 (Fr.nil _)
  refine Go.ifNo (pc' := 7) C X101 d10_4 ((if0 _ _).trans (feq (x := (1 : Int32)) (y := (0 : Int32)) (by decide)).1) rfl ?_
  refine Go.aloadN (pc' := 8) C X101 d10_7 rfl rfl rfl ?_
  refine Go.getF (pc' := 11) (host := "") C X101 (Or.inl (tw hw 28 rfl)) Via.refl e101 Fv d10_8 rfl ?_
  intro T103 X103 e103
  refine Go.iloadN (pc' := 12) C X103 d10_11 rfl rfl ?_
  refine Go.iloadN (pc' := 13) C X103 d10_12 rfl rfl ?_
  refine Go.callS (y := mN15) (pc' := 16) C X103 (tw hw 60 rfl) (tw hw 61 rfl) (by decide) (rm_li30 l Z a0 hw v k x0 x1 x2 h0 O0 Bx hx0 hx1 hx2 qe0 qe1 qe2) (tw hw 63 rfl) (tw hw 62 rfl) e103 (argsL := [(.ref v), (.int (64 : Int32)), (.int (2 : Int32))]) (rest := []) (W := 0) rfl rfl pd_21 rfl (Nat.le_of_eq rfl) rfl (by decide) (by decide) (by decide) (by decide) d10_13 rfl ?_
  intro T104 v104 L104 X104 q104
  obtain ⟨rfl, rfl, e104⟩ := q104
  have N104 := Fr.app N101 (Fr.nil _)
  refine Go.goto (pc' := 28) C X104 d10_16 (by decide) (by decide) ?_
  exact Go.retI C X104 rfl d10_28 (by rw [e104]; exact ⟨rfl, (by simp), rfl⟩) (by decide) (by decide)
def Q_lk30 (Z : State) (s1 : Addr) (v : Addr) (k : ClassId) (x0 : Int32) (x1 : Int32) (x2 : Int32) (cP : Int32) (h0 : Heap) (rv : Option Value) (h : Heap) (L : List Loc) : Prop := rv = some (.int (0 : Int32)) ∧ L = [] ∧ h = h0
theorem rm_lk30 (l : Launch) (Z : State) (a0 : Array Value) (hw : ∀ d ∈ tables_1, d.before a0 Z = true) (s1 : Addr) (v : Addr) (k : ClassId) (x0 : Int32) (x1 : Int32) (x2 : Int32) (cP : Int32) (h0 : Heap) (O0 : Ext Z.heap h0) (E0 : Exa Z h0 s1 "java/lang/String") (Fv : Fld Z h0 s1 "java/lang/String" "value" "[B" (.ref v)) (Fc : Fld Z h0 s1 "java/lang/String" "coder" "B" (.int (0 : Int32))) (Bx : AL Z h0 v k .byte (by8 [x0, x1, x2])) (SC : Sta Z Z.heap "java/lang/String" "COMPACT_STRINGS" "Z" (.int cP)) (hx0 : 0 ≤ x0.toInt ∧ x0.toInt ≤ 255) (hx1 : 0 ≤ x1.toInt ∧ x1.toInt ≤ 255) (hx2 : 0 ≤ x2.toInt ∧ x2.toInt ≤ 255) (qe0 : x0 = (64 : Int32)) (qe1 : ¬ x1 = (64 : Int32)) (qe2 : ¬ x2 = (64 : Int32)) (hP : ¬ cP = (0 : Int32)) :
    Met1 l Z mN8 jdk_42_method_82_code 2 (some .int) ({ frames := 3, cells := 0, slots := 0, locals := 42 } : Room) #[(.ref s1), (.int (64 : Int32))] h0 (Q_lk30 Z s1 v k x0 x1 x2 cP h0) := by
  refine Met1.of_body (Ls := #[.val (.ref s1), .val (.int (64 : Int32))]) pf_7 (fun m => by first | (simp [entryFrame, mkF, argsToLocals, Value.category]; done) | rfl) ?_
  intro p e s m below meth c T0 C X0 e0
  have N0 : Fr Z.heap.size [] := Fr.nil _
  refine Go.aloadN (pc' := 1) C X0 d7_0 rfl rfl rfl ?_
  refine Go.iloadN (pc' := 2) C X0 d7_1 rfl rfl ?_
  refine Go.aloadN (pc' := 3) C X0 d7_2 rfl rfl rfl ?_
  refine Go.callV (y := mN10) (z := mN10) (a := s1) (pc' := 6) C X0 (tw hw 39 rfl) (tw hw 40 rfl) (notFace_at C.2.1 (tw hw 42 rfl)) (tw hw 42 rfl) (tw hw 41 rfl) E0 (by decide) (rm_len l Z a0 hw s1 v k ([x0, x1, x2]) cP ((3 : Int32)) h0 O0 E0 Fv Fc Bx SC hP rfl) (tw hw 43 rfl) (tw hw 11 rfl) e0 (argsL := []) (rest := [(.int (64 : Int32)), (.ref s1)]) (W := 2) rfl rfl pd_11 rfl (Nat.le_of_eq rfl) rfl (by decide) (by decide) (by decide) (by decide) d7_3 rfl ?_
  intro T101 v101 L101 X101 q101
  obtain ⟨rfl, rfl, e101⟩ := q101
  have N101 := Fr.app N0 (Fr.nil _)
  refine Go.iconst (z := (1 : Int32)) (pc' := 7) C X101 d7_6 rfl rfl ?_
  refine Go.isub (pc' := 8) C X101 d7_7 rfl ?_
  rw [show ((3 : Int32) - (1 : Int32)) = (2 : Int32) from by decide]
  refine Go.callV (y := mN9) (z := mN9) (a := s1) (pc' := 11) C X101 (tw hw 50 rfl) (tw hw 51 rfl) (notFace_at C.2.1 (tw hw 53 rfl)) (tw hw 53 rfl) (tw hw 52 rfl) E0 (by decide) (rm_lj30 l Z a0 hw s1 v k x0 x1 x2 cP h0 O0 E0 Fv Fc Bx SC hx0 hx1 hx2 qe0 qe1 qe2 hP) (tw hw 54 rfl) (tw hw 11 rfl) e101 (argsL := [(.int (64 : Int32)), (.int (2 : Int32))]) (rest := []) (W := 0) rfl rfl pd_17 rfl (Nat.le_of_eq rfl) rfl (by decide) (by decide) (by decide) (by decide) d7_8 rfl ?_
  intro T102 v102 L102 X102 q102
  obtain ⟨rfl, rfl, e102⟩ := q102
  have N102 := Fr.app N101 (Fr.nil _)
  exact Go.retI C X102 rfl d7_11 (by rw [e102]; exact ⟨rfl, (by simp), rfl⟩) (by decide) (by decide)
def Q_sc30 (Z : State) (s1 : Addr) (v : Addr) (k : ClassId) (x0 : Int32) (x1 : Int32) (x2 : Int32) (cP : Int32) (fm : Value) (h0 : Heap) (rv : Option Value) (h : Heap) (L : List Loc) : Prop := ∃ o : Addr, ∃ r : Addr, ∃ u : Addr, ∃ ku : ClassId, rv = some (.ref o) ∧ Fr Z.heap.size L ∧ Keep h0 h [] ∧ h0.size ≤ o ∧ h0.size ≤ r ∧ h0.size ≤ u ∧ Exa Z h o "java/util/Optional" ∧ Fld Z h o "java/util/Optional" "value" "Ljava/lang/Object;" (.ref r) ∧ Exa Z h r "java/lang/String" ∧ Fld Z h r "java/lang/String" "value" "[B" (.ref u) ∧ Fld Z h r "java/lang/String" "coder" "B" (.int (0 : Int32)) ∧ AL Z h u ku .byte (by8 [x1, x2])
theorem rm_sc30 (l : Launch) (Z : State) (a0 : Array Value) (hw : ∀ d ∈ tables_1, d.before a0 Z = true) (s1 : Addr) (v : Addr) (k : ClassId) (x0 : Int32) (x1 : Int32) (x2 : Int32) (cP : Int32) (fm : Value) (h0 : Heap) (O0 : Ext Z.heap h0) (E0 : Exa Z h0 s1 "java/lang/String") (Fv : Fld Z h0 s1 "java/lang/String" "value" "[B" (.ref v)) (Fc : Fld Z h0 s1 "java/lang/String" "coder" "B" (.int (0 : Int32))) (Bx : AL Z h0 v k .byte (by8 [x0, x1, x2])) (SC : Sta Z Z.heap "java/lang/String" "COMPACT_STRINGS" "Z" (.int cP)) (SF : Sta Z Z.heap "jdk/internal/util/Preconditions" "SIOOBE_FORMATTER" "Ljava/util/function/BiFunction;" fm) (hx0 : 0 ≤ x0.toInt ∧ x0.toInt ≤ 255) (hx1 : 0 ≤ x1.toInt ∧ x1.toInt ≤ 255) (hx2 : 0 ≤ x2.toInt ∧ x2.toInt ≤ 255) (qe0 : x0 = (64 : Int32)) (qe1 : ¬ x1 = (64 : Int32)) (qe2 : ¬ x2 = (64 : Int32)) (hP : ¬ cP = (0 : Int32)) (hfm : fm.category = 1) :
    Met1 l Z mN30 prog_20_method_8_code 2 (some (.object "java/util/Optional")) ({ frames := 6, cells := 3, slots := 7, locals := 93 } : Room) #[(.ref s1)] h0 (Q_sc30 Z s1 v k x0 x1 x2 cP fm h0) := by
  refine Met1.of_body (Ls := #[.val (.ref s1), .unset]) pf_6 (fun m => by first | (simp [entryFrame, mkF, argsToLocals, Value.category]; done) | rfl) ?_
  intro p e s m below meth c T0 C X0 e0
  have N0 : Fr Z.heap.size [] := Fr.nil _
  refine Go.aloadN (pc' := 1) C X0 d6_0 rfl rfl rfl ?_
  refine Go.bipush (z := (64 : Int32)) (pc' := 3) C X0 d6_1 rfl rfl ?_
  refine Go.callV (y := mN8) (z := mN8) (a := s1) (pc' := 6) C X0 (tw hw 34 rfl) (tw hw 35 rfl) (notFace_at C.2.1 (tw hw 37 rfl)) (tw hw 37 rfl) (tw hw 36 rfl) E0 (by decide) (rm_lk30 l Z a0 hw s1 v k x0 x1 x2 cP h0 O0 E0 Fv Fc Bx SC hx0 hx1 hx2 qe0 qe1 qe2 hP) (tw hw 38 rfl) (tw hw 11 rfl) e0 (argsL := [(.int (64 : Int32))]) (rest := []) (W := 0) rfl rfl pd_22 rfl (Nat.le_of_eq rfl) rfl (by decide) (by decide) (by decide) (by decide) d6_3 rfl ?_
  intro T101 v101 L101 X101 q101
  obtain ⟨rfl, rfl, e101⟩ := q101
  have N101 := Fr.app N0 (Fr.nil _)
  refine Go.istoreN (Ls' := #[.val (.ref s1), .val (.int (0 : Int32))]) (pc' := 7) C X101 d6_6 rfl rfl ?_
  refine Go.iloadN (pc' := 8) C X101 d6_7 rfl rfl ?_
  refine Go.ifYes (pc' := 17) C X101 d6_8 ((if0 _ _).trans (flt (x := (0 : Int32)) (y := (0 : Int32)) (by decide)).2.1) (by decide) (by decide) ?_
  refine Go.aloadN (pc' := 18) C X101 d6_17 rfl rfl rfl ?_
  refine Go.iloadN (pc' := 19) C X101 d6_18 rfl rfl ?_
  refine Go.iconst (z := (1 : Int32)) (pc' := 20) C X101 d6_19 rfl rfl ?_
  refine Go.iadd (pc' := 21) C X101 d6_20 rfl ?_
  rw [show ((0 : Int32) + (1 : Int32)) = (1 : Int32) from by decide]
  refine Go.callV (y := mN11) (z := mN11) (a := s1) (pc' := 24) C X101 (tw hw 96 rfl) (tw hw 97 rfl) (notFace_at C.2.1 (tw hw 99 rfl)) (tw hw 99 rfl) (tw hw 98 rfl) E0 (by decide) (rm_su113 l Z a0 hw s1 v k x0 x1 x2 cP fm h0 O0 E0 Fv Fc Bx SC SF hP hfm) (tw hw 100 rfl) (tw hw 11 rfl) e101 (argsL := [(.int (1 : Int32))]) (rest := []) (W := 0) rfl rfl pd_24 rfl (Nat.le_of_eq rfl) rfl (by decide) (by decide) (by decide) (by decide) d6_21 rfl ?_
  intro T103 v103 L103 X103 q103
  obtain ⟨r_103, u_103, ku_103, rfl, N103q, K103, B103_0, B103_1, P103_0, P103_1, P103_2, P103_3⟩ := q103
  have N103 := Fr.app N101 N103q
  have n_r_103 : Z.heap.size ≤ r_103 := Nat.le_trans O0.1 B103_0
  have z_r_103 : h0.size ≤ r_103 := Nat.le_trans (Nat.le_refl _) B103_0
  have n_u_103 : Z.heap.size ≤ u_103 := Nat.le_trans O0.1 B103_1
  have z_u_103 : h0.size ≤ u_103 := Nat.le_trans (Nat.le_refl _) B103_1
  have O105 : Ext Z.heap T103.heap := (Ext.keep O0 K103 all0)
  refine Go.callS (y := mN28) (pc' := 27) C X103 (tw hw 118 rfl) (tw hw 119 rfl) (by decide) (rm_oof l Z a0 hw r_103 T103.heap O105 ) (tw hw 120 rfl) (tw hw 73 rfl) rfl (argsL := [(.ref r_103)]) (rest := []) (W := 0) rfl rfl pd_25 rfl (Nat.le_of_eq rfl) rfl (by decide) (by decide) (by decide) (by decide) d6_24 rfl ?_
  intro T104 v104 L104 X104 q104
  obtain ⟨o_104, rfl, N104q, K104, B104_0, P104_0, P104_1⟩ := q104
  have N104 := Fr.app N103 N104q
  have n_o_104 : Z.heap.size ≤ o_104 := Nat.le_trans O105.1 B104_0
  have z_o_104 : h0.size ≤ o_104 := Nat.le_trans (Nat.le_trans (Nat.le_refl _) K103.1) B104_0
  have K106 : Keep h0 T104.heap [] := (((Keep.refl h0 []).trans K103 all0).trans K104 all0)
  have c107 : Exa Z T104.heap r_103 "java/lang/String" := (Exa.keep P103_0 K104)
  have c108 : Fld Z T104.heap r_103 "java/lang/String" "value" "[B" (.ref u_103) := (Fld.keep P103_1 K104 nin0)
  have c109 : Fld Z T104.heap r_103 "java/lang/String" "coder" "B" (.int (0 : Int32)) := (Fld.keep P103_2 K104 nin0)
  have c110 : AL Z T104.heap u_103 ku_103 .byte (by8 [x1, x2]) := (AL.keep P103_3 K104 nin0)
  exact Go.retA C X104 rfl d6_27 rfl rfl rfl ⟨o_104, r_103, u_103, ku_103, rfl, N104, K106, z_o_104, z_r_103, z_u_103, P104_0, P104_1, c107, c108, c109, c110⟩ (by decide) (by decide)
def Q_li31 (Z : State) (v : Addr) (k : ClassId) (x0 : Int32) (x1 : Int32) (x2 : Int32) (h0 : Heap) (rv : Option Value) (h : Heap) (L : List Loc) : Prop := rv = some (.int (1 : Int32)) ∧ L = [] ∧ h = h0
theorem rm_li31 (l : Launch) (Z : State) (a0 : Array Value) (hw : ∀ d ∈ tables_1, d.before a0 Z = true) (v : Addr) (k : ClassId) (x0 : Int32) (x1 : Int32) (x2 : Int32) (h0 : Heap) (O0 : Ext Z.heap h0) (Bx : AL Z h0 v k .byte (by8 [x0, x1, x2])) (hx0 : 0 ≤ x0.toInt ∧ x0.toInt ≤ 255) (hx1 : 0 ≤ x1.toInt ∧ x1.toInt ≤ 255) (hx2 : 0 ≤ x2.toInt ∧ x2.toInt ≤ 255) (qe1 : x1 = (64 : Int32)) (qe2 : ¬ x2 = (64 : Int32)) :
    Met1 l Z mN15 jdk_43_method_27_code 4 (some .int) ({ frames := 1, cells := 0, slots := 0, locals := 13 } : Room) #[(.ref v), (.int (64 : Int32)), (.int (2 : Int32))] h0 (Q_li31 Z v k x0 x1 x2 h0) := by
  refine Met1.of_body (Ls := #[.val (.ref v), .val (.int (64 : Int32)), .val (.int (2 : Int32)), .unset]) pf_12 (fun m => by first | (simp [entryFrame, mkF, argsToLocals, Value.category]; done) | rfl) ?_
  intro p e s m below meth c T0 C X0 e0
  have N0 : Fr Z.heap.size [] := Fr.nil _
  refine Go.iloadN (pc' := 1) C X0 d12_0 rfl rfl ?_
  refine Go.callS (y := mN13) (pc' := 4) C X0 (tw hw 64 rfl) (tw hw 65 rfl) (by decide) (rm_ce l Z a0 hw  h0 O0 ) (tw hw 66 rfl) (tw hw 62 rfl) e0 (argsL := [(.int (64 : Int32))]) (rest := []) (W := 0) rfl rfl pd_20 rfl (Nat.le_of_eq rfl) rfl (by decide) (by decide) (by decide) (by decide) d12_1 rfl ?_
  intro T101 v101 L101 X101 q101
  obtain ⟨rfl, rfl, e101⟩ := q101
  have N101 := Fr.app N0 (Fr.nil _)
  refine Go.ifYes (pc' := 9) C X101 d12_4 ((if0 _ _).trans (feq (x := (1 : Int32)) (y := (0 : Int32)) (by decide)).2) (by decide) (by decide) ?_
  refine Go.iloadN (pc' := 10) C X101 d12_9 rfl rfl ?_
  refine Go.aloadN (pc' := 11) C X101 d12_10 rfl rfl rfl ?_
  refine Go.alen (z := (3 : Int32)) (pc' := 12) C X101 e101 Bx (by rw [by8_len]; rfl) d12_11 rfl ?_
  refine Go.iconst (z := (1 : Int32)) (pc' := 13) C X101 d12_12 rfl rfl ?_
  refine Go.isub (pc' := 14) C X101 d12_13 rfl ?_
  rw [show ((3 : Int32) - (1 : Int32)) = (2 : Int32) from by decide]
  refine Go.callS (y := mN0) (pc' := 17) C X101 (tw hw 67 rfl) (tw hw 68 rfl) (by decide) (rm_mn l Z a0 hw ((2 : Int32)) h0 O0 ) (tw hw 70 rfl) (tw hw 69 rfl) e101 (argsL := [(.int (2 : Int32)), (.int (2 : Int32))]) (rest := []) (W := 0) rfl rfl pd_17 rfl (Nat.le_of_eq rfl) rfl (by decide) (by decide) (by decide) (by decide) d12_14 rfl ?_
  intro T103 v103 L103 X103 q103
  obtain ⟨rfl, rfl, e103⟩ := q103
  have N103 := Fr.app N101 (Fr.nil _)
  refine Go.istoreN (Ls' := #[.val (.ref v), .val (.int (64 : Int32)), .val (.int (2 : Int32)), .val (.int (2 : Int32))]) (pc' := 18) C X103 d12_17 rfl rfl ?_
  refine Go.iloadN (pc' := 19) C X103 d12_18 rfl rfl ?_
  refine Go.ifNo (pc' := 22) C X103 d12_19 ((if0 _ _).trans (flt (x := (2 : Int32)) (y := (0 : Int32)) (by decide)).1) rfl ?_
  refine Go.aloadN (pc' := 23) C X103 d12_22 rfl rfl rfl ?_
  refine Go.iloadN (pc' := 24) C X103 d12_23 rfl rfl ?_
  refine Go.ldB (i := 2) (v := (.int x2.toInt8.toInt32)) (pc' := 25) C X103 e103 Bx (by decide) (by decide) (by8_get rfl) d12_24 rfl ?_
  refine Go.iloadN (pc' := 26) C X103 d12_25 rfl rfl ?_
  refine Go.i2b (pc' := 27) C X103 d12_26 rfl ?_
  refine Go.icmpYes (pc' := 32) C X103 d12_27 (feq (x := x2.toInt8.toInt32) (y := ((64 : Int32).toInt8.toInt32)) (fun q => qe2 ((b64 hx2).mp q))).2 (by decide) (by decide) ?_
  refine Go.iinc (Ls' := #[.val (.ref v), .val (.int (64 : Int32)), .val (.int (2 : Int32)), .val (.int ((2 : Int32) + (-1 : Int32)))]) (z := (-1 : Int32)) (pc' := 35) C X103 d12_32 rfl rfl rfl rfl ?_
  rw [show ((2 : Int32) + (-1 : Int32)) = (1 : Int32) from by decide]
  refine Go.goto (pc' := 18) C X103 d12_35 (by decide) (by decide) ?_
  refine Go.iloadN (pc' := 19) C X103 d12_18 rfl rfl ?_
  refine Go.ifNo (pc' := 22) C X103 d12_19 ((if0 _ _).trans (flt (x := (1 : Int32)) (y := (0 : Int32)) (by decide)).1) rfl ?_
  refine Go.aloadN (pc' := 23) C X103 d12_22 rfl rfl rfl ?_
  refine Go.iloadN (pc' := 24) C X103 d12_23 rfl rfl ?_
  refine Go.ldB (i := 1) (v := (.int x1.toInt8.toInt32)) (pc' := 25) C X103 e103 Bx (by decide) (by decide) (by8_get rfl) d12_24 rfl ?_
  refine Go.iloadN (pc' := 26) C X103 d12_25 rfl rfl ?_
  refine Go.i2b (pc' := 27) C X103 d12_26 rfl ?_
  refine Go.icmpNo (pc' := 30) C X103 d12_27 (teq (x := x1.toInt8.toInt32) (y := ((64 : Int32).toInt8.toInt32)) ((b64 hx1).mpr qe1)).2 rfl ?_
  refine Go.iloadN (pc' := 31) C X103 d12_30 rfl rfl ?_
  exact Go.retI C X103 rfl d12_31 (by rw [e103]; exact ⟨rfl, (by simp), rfl⟩) (by decide) (by decide)
def Q_lj31 (Z : State) (s1 : Addr) (v : Addr) (k : ClassId) (x0 : Int32) (x1 : Int32) (x2 : Int32) (cP : Int32) (h0 : Heap) (rv : Option Value) (h : Heap) (L : List Loc) : Prop := rv = some (.int (1 : Int32)) ∧ L = [] ∧ h = h0
theorem rm_lj31 (l : Launch) (Z : State) (a0 : Array Value) (hw : ∀ d ∈ tables_1, d.before a0 Z = true) (s1 : Addr) (v : Addr) (k : ClassId) (x0 : Int32) (x1 : Int32) (x2 : Int32) (cP : Int32) (h0 : Heap) (O0 : Ext Z.heap h0) (E0 : Exa Z h0 s1 "java/lang/String") (Fv : Fld Z h0 s1 "java/lang/String" "value" "[B" (.ref v)) (Fc : Fld Z h0 s1 "java/lang/String" "coder" "B" (.int (0 : Int32))) (Bx : AL Z h0 v k .byte (by8 [x0, x1, x2])) (SC : Sta Z Z.heap "java/lang/String" "COMPACT_STRINGS" "Z" (.int cP)) (hx0 : 0 ≤ x0.toInt ∧ x0.toInt ≤ 255) (hx1 : 0 ≤ x1.toInt ∧ x1.toInt ≤ 255) (hx2 : 0 ≤ x2.toInt ∧ x2.toInt ≤ 255) (qe1 : x1 = (64 : Int32)) (qe2 : ¬ x2 = (64 : Int32)) (hP : ¬ cP = (0 : Int32)) :
    Met1 l Z mN9 jdk_42_method_83_code 3 (some .int) ({ frames := 2, cells := 0, slots := 0, locals := 28 } : Room) #[(.ref s1), (.int (64 : Int32)), (.int (2 : Int32))] h0 (Q_lj31 Z s1 v k x0 x1 x2 cP h0) := by
  refine Met1.of_body (Ls := #[.val (.ref s1), .val (.int (64 : Int32)), .val (.int (2 : Int32))]) pf_10 (fun m => by first | (simp [entryFrame, mkF, argsToLocals, Value.category]; done) | rfl) ?_
  intro p e s m below meth c T0 C X0 e0
  have N0 : Fr Z.heap.size [] := Fr.nil _
  refine Go.aloadN (pc' := 1) C X0 d10_0 rfl rfl rfl ?_
  refine Go.callV (y := mN7) (z := mN7) (a := s1) (pc' := 4) C X0 (tw hw 55 rfl) (tw hw 56 rfl) (notFace_at C.2.1 (tw hw 58 rfl)) (tw hw 58 rfl) (tw hw 57 rfl) E0 (by decide) (rm_isL l Z a0 hw s1 cP h0 O0 Fc SC hP) (tw hw 59 rfl) (tw hw 11 rfl) e0 (argsL := []) (rest := []) (W := 0) rfl rfl pd_13 rfl (Nat.le_of_eq rfl) rfl (by decide) (by decide) (by decide) (by decide) d10_1 rfl ?_
  intro T101 v101 L101 X101 q101
  obtain ⟨rfl, rfl, e101⟩ := q101
  have N101 := Fr.app N0 (Fr.nil _)
  refine Go.ifNo (pc' := 7) C X101 d10_4 ((if0 _ _).trans (feq (x := (1 : Int32)) (y := (0 : Int32)) (by decide)).1) rfl ?_
  refine Go.aloadN (pc' := 8) C X101 d10_7 rfl rfl rfl ?_
  refine Go.getF (pc' := 11) (host := "") C X101 (Or.inl (tw hw 28 rfl)) Via.refl e101 Fv d10_8 rfl ?_
  intro T103 X103 e103
  refine Go.iloadN (pc' := 12) C X103 d10_11 rfl rfl ?_
  refine Go.iloadN (pc' := 13) C X103 d10_12 rfl rfl ?_
  refine Go.callS (y := mN15) (pc' := 16) C X103 (tw hw 60 rfl) (tw hw 61 rfl) (by decide) (rm_li31 l Z a0 hw v k x0 x1 x2 h0 O0 Bx hx0 hx1 hx2 qe1 qe2) (tw hw 63 rfl) (tw hw 62 rfl) e103 (argsL := [(.ref v), (.int (64 : Int32)), (.int (2 : Int32))]) (rest := []) (W := 0) rfl rfl pd_21 rfl (Nat.le_of_eq rfl) rfl (by decide) (by decide) (by decide) (by decide) d10_13 rfl ?_
  intro T104 v104 L104 X104 q104
  obtain ⟨rfl, rfl, e104⟩ := q104
  have N104 := Fr.app N101 (Fr.nil _)
  refine Go.goto (pc' := 28) C X104 d10_16 (by decide) (by decide) ?_
  exact Go.retI C X104 rfl d10_28 (by rw [e104]; exact ⟨rfl, (by simp), rfl⟩) (by decide) (by decide)
def Q_lk31 (Z : State) (s1 : Addr) (v : Addr) (k : ClassId) (x0 : Int32) (x1 : Int32) (x2 : Int32) (cP : Int32) (h0 : Heap) (rv : Option Value) (h : Heap) (L : List Loc) : Prop := rv = some (.int (1 : Int32)) ∧ L = [] ∧ h = h0
theorem rm_lk31 (l : Launch) (Z : State) (a0 : Array Value) (hw : ∀ d ∈ tables_1, d.before a0 Z = true) (s1 : Addr) (v : Addr) (k : ClassId) (x0 : Int32) (x1 : Int32) (x2 : Int32) (cP : Int32) (h0 : Heap) (O0 : Ext Z.heap h0) (E0 : Exa Z h0 s1 "java/lang/String") (Fv : Fld Z h0 s1 "java/lang/String" "value" "[B" (.ref v)) (Fc : Fld Z h0 s1 "java/lang/String" "coder" "B" (.int (0 : Int32))) (Bx : AL Z h0 v k .byte (by8 [x0, x1, x2])) (SC : Sta Z Z.heap "java/lang/String" "COMPACT_STRINGS" "Z" (.int cP)) (hx0 : 0 ≤ x0.toInt ∧ x0.toInt ≤ 255) (hx1 : 0 ≤ x1.toInt ∧ x1.toInt ≤ 255) (hx2 : 0 ≤ x2.toInt ∧ x2.toInt ≤ 255) (qe1 : x1 = (64 : Int32)) (qe2 : ¬ x2 = (64 : Int32)) (hP : ¬ cP = (0 : Int32)) :
    Met1 l Z mN8 jdk_42_method_82_code 2 (some .int) ({ frames := 3, cells := 0, slots := 0, locals := 42 } : Room) #[(.ref s1), (.int (64 : Int32))] h0 (Q_lk31 Z s1 v k x0 x1 x2 cP h0) := by
  refine Met1.of_body (Ls := #[.val (.ref s1), .val (.int (64 : Int32))]) pf_7 (fun m => by first | (simp [entryFrame, mkF, argsToLocals, Value.category]; done) | rfl) ?_
  intro p e s m below meth c T0 C X0 e0
  have N0 : Fr Z.heap.size [] := Fr.nil _
  refine Go.aloadN (pc' := 1) C X0 d7_0 rfl rfl rfl ?_
  refine Go.iloadN (pc' := 2) C X0 d7_1 rfl rfl ?_
  refine Go.aloadN (pc' := 3) C X0 d7_2 rfl rfl rfl ?_
  refine Go.callV (y := mN10) (z := mN10) (a := s1) (pc' := 6) C X0 (tw hw 39 rfl) (tw hw 40 rfl) (notFace_at C.2.1 (tw hw 42 rfl)) (tw hw 42 rfl) (tw hw 41 rfl) E0 (by decide) (rm_len l Z a0 hw s1 v k ([x0, x1, x2]) cP ((3 : Int32)) h0 O0 E0 Fv Fc Bx SC hP rfl) (tw hw 43 rfl) (tw hw 11 rfl) e0 (argsL := []) (rest := [(.int (64 : Int32)), (.ref s1)]) (W := 2) rfl rfl pd_11 rfl (Nat.le_of_eq rfl) rfl (by decide) (by decide) (by decide) (by decide) d7_3 rfl ?_
  intro T101 v101 L101 X101 q101
  obtain ⟨rfl, rfl, e101⟩ := q101
  have N101 := Fr.app N0 (Fr.nil _)
  refine Go.iconst (z := (1 : Int32)) (pc' := 7) C X101 d7_6 rfl rfl ?_
  refine Go.isub (pc' := 8) C X101 d7_7 rfl ?_
  rw [show ((3 : Int32) - (1 : Int32)) = (2 : Int32) from by decide]
  refine Go.callV (y := mN9) (z := mN9) (a := s1) (pc' := 11) C X101 (tw hw 50 rfl) (tw hw 51 rfl) (notFace_at C.2.1 (tw hw 53 rfl)) (tw hw 53 rfl) (tw hw 52 rfl) E0 (by decide) (rm_lj31 l Z a0 hw s1 v k x0 x1 x2 cP h0 O0 E0 Fv Fc Bx SC hx0 hx1 hx2 qe1 qe2 hP) (tw hw 54 rfl) (tw hw 11 rfl) e101 (argsL := [(.int (64 : Int32)), (.int (2 : Int32))]) (rest := []) (W := 0) rfl rfl pd_17 rfl (Nat.le_of_eq rfl) rfl (by decide) (by decide) (by decide) (by decide) d7_8 rfl ?_
  intro T102 v102 L102 X102 q102
  obtain ⟨rfl, rfl, e102⟩ := q102
  have N102 := Fr.app N101 (Fr.nil _)
  exact Go.retI C X102 rfl d7_11 (by rw [e102]; exact ⟨rfl, (by simp), rfl⟩) (by decide) (by decide)
def Q_sc31 (Z : State) (s1 : Addr) (v : Addr) (k : ClassId) (x0 : Int32) (x1 : Int32) (x2 : Int32) (cP : Int32) (fm : Value) (h0 : Heap) (rv : Option Value) (h : Heap) (L : List Loc) : Prop := ∃ o : Addr, ∃ r : Addr, ∃ u : Addr, ∃ ku : ClassId, rv = some (.ref o) ∧ Fr Z.heap.size L ∧ Keep h0 h [] ∧ h0.size ≤ o ∧ h0.size ≤ r ∧ h0.size ≤ u ∧ Exa Z h o "java/util/Optional" ∧ Fld Z h o "java/util/Optional" "value" "Ljava/lang/Object;" (.ref r) ∧ Exa Z h r "java/lang/String" ∧ Fld Z h r "java/lang/String" "value" "[B" (.ref u) ∧ Fld Z h r "java/lang/String" "coder" "B" (.int (0 : Int32)) ∧ AL Z h u ku .byte (by8 [x2])
theorem rm_sc31 (l : Launch) (Z : State) (a0 : Array Value) (hw : ∀ d ∈ tables_1, d.before a0 Z = true) (s1 : Addr) (v : Addr) (k : ClassId) (x0 : Int32) (x1 : Int32) (x2 : Int32) (cP : Int32) (fm : Value) (h0 : Heap) (O0 : Ext Z.heap h0) (E0 : Exa Z h0 s1 "java/lang/String") (Fv : Fld Z h0 s1 "java/lang/String" "value" "[B" (.ref v)) (Fc : Fld Z h0 s1 "java/lang/String" "coder" "B" (.int (0 : Int32))) (Bx : AL Z h0 v k .byte (by8 [x0, x1, x2])) (SC : Sta Z Z.heap "java/lang/String" "COMPACT_STRINGS" "Z" (.int cP)) (SF : Sta Z Z.heap "jdk/internal/util/Preconditions" "SIOOBE_FORMATTER" "Ljava/util/function/BiFunction;" fm) (hx0 : 0 ≤ x0.toInt ∧ x0.toInt ≤ 255) (hx1 : 0 ≤ x1.toInt ∧ x1.toInt ≤ 255) (hx2 : 0 ≤ x2.toInt ∧ x2.toInt ≤ 255) (qe1 : x1 = (64 : Int32)) (qe2 : ¬ x2 = (64 : Int32)) (hP : ¬ cP = (0 : Int32)) (hfm : fm.category = 1) :
    Met1 l Z mN30 prog_20_method_8_code 2 (some (.object "java/util/Optional")) ({ frames := 6, cells := 3, slots := 6, locals := 93 } : Room) #[(.ref s1)] h0 (Q_sc31 Z s1 v k x0 x1 x2 cP fm h0) := by
  refine Met1.of_body (Ls := #[.val (.ref s1), .unset]) pf_6 (fun m => by first | (simp [entryFrame, mkF, argsToLocals, Value.category]; done) | rfl) ?_
  intro p e s m below meth c T0 C X0 e0
  have N0 : Fr Z.heap.size [] := Fr.nil _
  refine Go.aloadN (pc' := 1) C X0 d6_0 rfl rfl rfl ?_
  refine Go.bipush (z := (64 : Int32)) (pc' := 3) C X0 d6_1 rfl rfl ?_
  refine Go.callV (y := mN8) (z := mN8) (a := s1) (pc' := 6) C X0 (tw hw 34 rfl) (tw hw 35 rfl) (notFace_at C.2.1 (tw hw 37 rfl)) (tw hw 37 rfl) (tw hw 36 rfl) E0 (by decide) (rm_lk31 l Z a0 hw s1 v k x0 x1 x2 cP h0 O0 E0 Fv Fc Bx SC hx0 hx1 hx2 qe1 qe2 hP) (tw hw 38 rfl) (tw hw 11 rfl) e0 (argsL := [(.int (64 : Int32))]) (rest := []) (W := 0) rfl rfl pd_22 rfl (Nat.le_of_eq rfl) rfl (by decide) (by decide) (by decide) (by decide) d6_3 rfl ?_
  intro T101 v101 L101 X101 q101
  obtain ⟨rfl, rfl, e101⟩ := q101
  have N101 := Fr.app N0 (Fr.nil _)
  refine Go.istoreN (Ls' := #[.val (.ref s1), .val (.int (1 : Int32))]) (pc' := 7) C X101 d6_6 rfl rfl ?_
  refine Go.iloadN (pc' := 8) C X101 d6_7 rfl rfl ?_
  refine Go.ifYes (pc' := 17) C X101 d6_8 ((if0 _ _).trans (flt (x := (1 : Int32)) (y := (0 : Int32)) (by decide)).2.1) (by decide) (by decide) ?_
  refine Go.aloadN (pc' := 18) C X101 d6_17 rfl rfl rfl ?_
  refine Go.iloadN (pc' := 19) C X101 d6_18 rfl rfl ?_
  refine Go.iconst (z := (1 : Int32)) (pc' := 20) C X101 d6_19 rfl rfl ?_
  refine Go.iadd (pc' := 21) C X101 d6_20 rfl ?_
  rw [show ((1 : Int32) + (1 : Int32)) = (2 : Int32) from by decide]
  refine Go.callV (y := mN11) (z := mN11) (a := s1) (pc' := 24) C X101 (tw hw 96 rfl) (tw hw 97 rfl) (notFace_at C.2.1 (tw hw 99 rfl)) (tw hw 99 rfl) (tw hw 98 rfl) E0 (by decide) (rm_su123 l Z a0 hw s1 v k x0 x1 x2 cP fm h0 O0 E0 Fv Fc Bx SC SF hP hfm) (tw hw 100 rfl) (tw hw 11 rfl) e101 (argsL := [(.int (2 : Int32))]) (rest := []) (W := 0) rfl rfl pd_24 rfl (Nat.le_of_eq rfl) rfl (by decide) (by decide) (by decide) (by decide) d6_21 rfl ?_
  intro T103 v103 L103 X103 q103
  obtain ⟨r_103, u_103, ku_103, rfl, N103q, K103, B103_0, B103_1, P103_0, P103_1, P103_2, P103_3⟩ := q103
  have N103 := Fr.app N101 N103q
  have n_r_103 : Z.heap.size ≤ r_103 := Nat.le_trans O0.1 B103_0
  have z_r_103 : h0.size ≤ r_103 := Nat.le_trans (Nat.le_refl _) B103_0
  have n_u_103 : Z.heap.size ≤ u_103 := Nat.le_trans O0.1 B103_1
  have z_u_103 : h0.size ≤ u_103 := Nat.le_trans (Nat.le_refl _) B103_1
  have O105 : Ext Z.heap T103.heap := (Ext.keep O0 K103 all0)
  refine Go.callS (y := mN28) (pc' := 27) C X103 (tw hw 118 rfl) (tw hw 119 rfl) (by decide) (rm_oof l Z a0 hw r_103 T103.heap O105 ) (tw hw 120 rfl) (tw hw 73 rfl) rfl (argsL := [(.ref r_103)]) (rest := []) (W := 0) rfl rfl pd_25 rfl (Nat.le_of_eq rfl) rfl (by decide) (by decide) (by decide) (by decide) d6_24 rfl ?_
  intro T104 v104 L104 X104 q104
  obtain ⟨o_104, rfl, N104q, K104, B104_0, P104_0, P104_1⟩ := q104
  have N104 := Fr.app N103 N104q
  have n_o_104 : Z.heap.size ≤ o_104 := Nat.le_trans O105.1 B104_0
  have z_o_104 : h0.size ≤ o_104 := Nat.le_trans (Nat.le_trans (Nat.le_refl _) K103.1) B104_0
  have K106 : Keep h0 T104.heap [] := (((Keep.refl h0 []).trans K103 all0).trans K104 all0)
  have c107 : Exa Z T104.heap r_103 "java/lang/String" := (Exa.keep P103_0 K104)
  have c108 : Fld Z T104.heap r_103 "java/lang/String" "value" "[B" (.ref u_103) := (Fld.keep P103_1 K104 nin0)
  have c109 : Fld Z T104.heap r_103 "java/lang/String" "coder" "B" (.int (0 : Int32)) := (Fld.keep P103_2 K104 nin0)
  have c110 : AL Z T104.heap u_103 ku_103 .byte (by8 [x2]) := (AL.keep P103_3 K104 nin0)
  exact Go.retA C X104 rfl d6_27 rfl rfl rfl ⟨o_104, r_103, u_103, ku_103, rfl, N104, K106, z_o_104, z_r_103, z_u_103, P104_0, P104_1, c107, c108, c109, c110⟩ (by decide) (by decide)
def Q_li32 (Z : State) (v : Addr) (k : ClassId) (x0 : Int32) (x1 : Int32) (x2 : Int32) (h0 : Heap) (rv : Option Value) (h : Heap) (L : List Loc) : Prop := rv = some (.int (2 : Int32)) ∧ L = [] ∧ h = h0
theorem rm_li32 (l : Launch) (Z : State) (a0 : Array Value) (hw : ∀ d ∈ tables_1, d.before a0 Z = true) (v : Addr) (k : ClassId) (x0 : Int32) (x1 : Int32) (x2 : Int32) (h0 : Heap) (O0 : Ext Z.heap h0) (Bx : AL Z h0 v k .byte (by8 [x0, x1, x2])) (hx0 : 0 ≤ x0.toInt ∧ x0.toInt ≤ 255) (hx1 : 0 ≤ x1.toInt ∧ x1.toInt ≤ 255) (hx2 : 0 ≤ x2.toInt ∧ x2.toInt ≤ 255) (qe2 : x2 = (64 : Int32)) :
    Met1 l Z mN15 jdk_43_method_27_code 4 (some .int) ({ frames := 1, cells := 0, slots := 0, locals := 13 } : Room) #[(.ref v), (.int (64 : Int32)), (.int (2 : Int32))] h0 (Q_li32 Z v k x0 x1 x2 h0) := by
  refine Met1.of_body (Ls := #[.val (.ref v), .val (.int (64 : Int32)), .val (.int (2 : Int32)), .unset]) pf_12 (fun m => by first | (simp [entryFrame, mkF, argsToLocals, Value.category]; done) | rfl) ?_
  intro p e s m below meth c T0 C X0 e0
  have N0 : Fr Z.heap.size [] := Fr.nil _
  refine Go.iloadN (pc' := 1) C X0 d12_0 rfl rfl ?_
  refine Go.callS (y := mN13) (pc' := 4) C X0 (tw hw 64 rfl) (tw hw 65 rfl) (by decide) (rm_ce l Z a0 hw  h0 O0 ) (tw hw 66 rfl) (tw hw 62 rfl) e0 (argsL := [(.int (64 : Int32))]) (rest := []) (W := 0) rfl rfl pd_20 rfl (Nat.le_of_eq rfl) rfl (by decide) (by decide) (by decide) (by decide) d12_1 rfl ?_
  intro T101 v101 L101 X101 q101
  obtain ⟨rfl, rfl, e101⟩ := q101
  have N101 := Fr.app N0 (Fr.nil _)
  refine Go.ifYes (pc' := 9) C X101 d12_4 ((if0 _ _).trans (feq (x := (1 : Int32)) (y := (0 : Int32)) (by decide)).2) (by decide) (by decide) ?_
  refine Go.iloadN (pc' := 10) C X101 d12_9 rfl rfl ?_
  refine Go.aloadN (pc' := 11) C X101 d12_10 rfl rfl rfl ?_
  refine Go.alen (z := (3 : Int32)) (pc' := 12) C X101 e101 Bx (by rw [by8_len]; rfl) d12_11 rfl ?_
  refine Go.iconst (z := (1 : Int32)) (pc' := 13) C X101 d12_12 rfl rfl ?_
  refine Go.isub (pc' := 14) C X101 d12_13 rfl ?_
  rw [show ((3 : Int32) - (1 : Int32)) = (2 : Int32) from by decide]
  refine Go.callS (y := mN0) (pc' := 17) C X101 (tw hw 67 rfl) (tw hw 68 rfl) (by decide) (rm_mn l Z a0 hw ((2 : Int32)) h0 O0 ) (tw hw 70 rfl) (tw hw 69 rfl) e101 (argsL := [(.int (2 : Int32)), (.int (2 : Int32))]) (rest := []) (W := 0) rfl rfl pd_17 rfl (Nat.le_of_eq rfl) rfl (by decide) (by decide) (by decide) (by decide) d12_14 rfl ?_
  intro T103 v103 L103 X103 q103
  obtain ⟨rfl, rfl, e103⟩ := q103
  have N103 := Fr.app N101 (Fr.nil _)
  refine Go.istoreN (Ls' := #[.val (.ref v), .val (.int (64 : Int32)), .val (.int (2 : Int32)), .val (.int (2 : Int32))]) (pc' := 18) C X103 d12_17 rfl rfl ?_
  refine Go.iloadN (pc' := 19) C X103 d12_18 rfl rfl ?_
  refine Go.ifNo (pc' := 22) C X103 d12_19 ((if0 _ _).trans (flt (x := (2 : Int32)) (y := (0 : Int32)) (by decide)).1) rfl ?_
  refine Go.aloadN (pc' := 23) C X103 d12_22 rfl rfl rfl ?_
  refine Go.iloadN (pc' := 24) C X103 d12_23 rfl rfl ?_
  refine Go.ldB (i := 2) (v := (.int x2.toInt8.toInt32)) (pc' := 25) C X103 e103 Bx (by decide) (by decide) (by8_get rfl) d12_24 rfl ?_
  refine Go.iloadN (pc' := 26) C X103 d12_25 rfl rfl ?_
  refine Go.i2b (pc' := 27) C X103 d12_26 rfl ?_
  refine Go.icmpNo (pc' := 30) C X103 d12_27 (teq (x := x2.toInt8.toInt32) (y := ((64 : Int32).toInt8.toInt32)) ((b64 hx2).mpr qe2)).2 rfl ?_
  refine Go.iloadN (pc' := 31) C X103 d12_30 rfl rfl ?_
  exact Go.retI C X103 rfl d12_31 (by rw [e103]; exact ⟨rfl, (by simp), rfl⟩) (by decide) (by decide)
def Q_lj32 (Z : State) (s1 : Addr) (v : Addr) (k : ClassId) (x0 : Int32) (x1 : Int32) (x2 : Int32) (cP : Int32) (h0 : Heap) (rv : Option Value) (h : Heap) (L : List Loc) : Prop := rv = some (.int (2 : Int32)) ∧ L = [] ∧ h = h0
theorem rm_lj32 (l : Launch) (Z : State) (a0 : Array Value) (hw : ∀ d ∈ tables_1, d.before a0 Z = true) (s1 : Addr) (v : Addr) (k : ClassId) (x0 : Int32) (x1 : Int32) (x2 : Int32) (cP : Int32) (h0 : Heap) (O0 : Ext Z.heap h0) (E0 : Exa Z h0 s1 "java/lang/String") (Fv : Fld Z h0 s1 "java/lang/String" "value" "[B" (.ref v)) (Fc : Fld Z h0 s1 "java/lang/String" "coder" "B" (.int (0 : Int32))) (Bx : AL Z h0 v k .byte (by8 [x0, x1, x2])) (SC : Sta Z Z.heap "java/lang/String" "COMPACT_STRINGS" "Z" (.int cP)) (hx0 : 0 ≤ x0.toInt ∧ x0.toInt ≤ 255) (hx1 : 0 ≤ x1.toInt ∧ x1.toInt ≤ 255) (hx2 : 0 ≤ x2.toInt ∧ x2.toInt ≤ 255) (qe2 : x2 = (64 : Int32)) (hP : ¬ cP = (0 : Int32)) :
    Met1 l Z mN9 jdk_42_method_83_code 3 (some .int) ({ frames := 2, cells := 0, slots := 0, locals := 28 } : Room) #[(.ref s1), (.int (64 : Int32)), (.int (2 : Int32))] h0 (Q_lj32 Z s1 v k x0 x1 x2 cP h0) := by
  refine Met1.of_body (Ls := #[.val (.ref s1), .val (.int (64 : Int32)), .val (.int (2 : Int32))]) pf_10 (fun m => by first | (simp [entryFrame, mkF, argsToLocals, Value.category]; done) | rfl) ?_
  intro p e s m below meth c T0 C X0 e0
  have N0 : Fr Z.heap.size [] := Fr.nil _
  refine Go.aloadN (pc' := 1) C X0 d10_0 rfl rfl rfl ?_
  refine Go.callV (y := mN7) (z := mN7) (a := s1) (pc' := 4) C X0 (tw hw 55 rfl) (tw hw 56 rfl) (notFace_at C.2.1 (tw hw 58 rfl)) (tw hw 58 rfl) (tw hw 57 rfl) E0 (by decide) (rm_isL l Z a0 hw s1 cP h0 O0 Fc SC hP) (tw hw 59 rfl) (tw hw 11 rfl) e0 (argsL := []) (rest := []) (W := 0) rfl rfl pd_13 rfl (Nat.le_of_eq rfl) rfl (by decide) (by decide) (by decide) (by decide) d10_1 rfl ?_
  intro T101 v101 L101 X101 q101
  obtain ⟨rfl, rfl, e101⟩ := q101
  have N101 := Fr.app N0 (Fr.nil _)
  refine Go.ifNo (pc' := 7) C X101 d10_4 ((if0 _ _).trans (feq (x := (1 : Int32)) (y := (0 : Int32)) (by decide)).1) rfl ?_
  refine Go.aloadN (pc' := 8) C X101 d10_7 rfl rfl rfl ?_
  refine Go.getF (pc' := 11) (host := "") C X101 (Or.inl (tw hw 28 rfl)) Via.refl e101 Fv d10_8 rfl ?_
  intro T103 X103 e103
  refine Go.iloadN (pc' := 12) C X103 d10_11 rfl rfl ?_
  refine Go.iloadN (pc' := 13) C X103 d10_12 rfl rfl ?_
  refine Go.callS (y := mN15) (pc' := 16) C X103 (tw hw 60 rfl) (tw hw 61 rfl) (by decide) (rm_li32 l Z a0 hw v k x0 x1 x2 h0 O0 Bx hx0 hx1 hx2 qe2) (tw hw 63 rfl) (tw hw 62 rfl) e103 (argsL := [(.ref v), (.int (64 : Int32)), (.int (2 : Int32))]) (rest := []) (W := 0) rfl rfl pd_21 rfl (Nat.le_of_eq rfl) rfl (by decide) (by decide) (by decide) (by decide) d10_13 rfl ?_
  intro T104 v104 L104 X104 q104
  obtain ⟨rfl, rfl, e104⟩ := q104
  have N104 := Fr.app N101 (Fr.nil _)
  refine Go.goto (pc' := 28) C X104 d10_16 (by decide) (by decide) ?_
  exact Go.retI C X104 rfl d10_28 (by rw [e104]; exact ⟨rfl, (by simp), rfl⟩) (by decide) (by decide)
def Q_lk32 (Z : State) (s1 : Addr) (v : Addr) (k : ClassId) (x0 : Int32) (x1 : Int32) (x2 : Int32) (cP : Int32) (h0 : Heap) (rv : Option Value) (h : Heap) (L : List Loc) : Prop := rv = some (.int (2 : Int32)) ∧ L = [] ∧ h = h0
theorem rm_lk32 (l : Launch) (Z : State) (a0 : Array Value) (hw : ∀ d ∈ tables_1, d.before a0 Z = true) (s1 : Addr) (v : Addr) (k : ClassId) (x0 : Int32) (x1 : Int32) (x2 : Int32) (cP : Int32) (h0 : Heap) (O0 : Ext Z.heap h0) (E0 : Exa Z h0 s1 "java/lang/String") (Fv : Fld Z h0 s1 "java/lang/String" "value" "[B" (.ref v)) (Fc : Fld Z h0 s1 "java/lang/String" "coder" "B" (.int (0 : Int32))) (Bx : AL Z h0 v k .byte (by8 [x0, x1, x2])) (SC : Sta Z Z.heap "java/lang/String" "COMPACT_STRINGS" "Z" (.int cP)) (hx0 : 0 ≤ x0.toInt ∧ x0.toInt ≤ 255) (hx1 : 0 ≤ x1.toInt ∧ x1.toInt ≤ 255) (hx2 : 0 ≤ x2.toInt ∧ x2.toInt ≤ 255) (qe2 : x2 = (64 : Int32)) (hP : ¬ cP = (0 : Int32)) :
    Met1 l Z mN8 jdk_42_method_82_code 2 (some .int) ({ frames := 3, cells := 0, slots := 0, locals := 42 } : Room) #[(.ref s1), (.int (64 : Int32))] h0 (Q_lk32 Z s1 v k x0 x1 x2 cP h0) := by
  refine Met1.of_body (Ls := #[.val (.ref s1), .val (.int (64 : Int32))]) pf_7 (fun m => by first | (simp [entryFrame, mkF, argsToLocals, Value.category]; done) | rfl) ?_
  intro p e s m below meth c T0 C X0 e0
  have N0 : Fr Z.heap.size [] := Fr.nil _
  refine Go.aloadN (pc' := 1) C X0 d7_0 rfl rfl rfl ?_
  refine Go.iloadN (pc' := 2) C X0 d7_1 rfl rfl ?_
  refine Go.aloadN (pc' := 3) C X0 d7_2 rfl rfl rfl ?_
  refine Go.callV (y := mN10) (z := mN10) (a := s1) (pc' := 6) C X0 (tw hw 39 rfl) (tw hw 40 rfl) (notFace_at C.2.1 (tw hw 42 rfl)) (tw hw 42 rfl) (tw hw 41 rfl) E0 (by decide) (rm_len l Z a0 hw s1 v k ([x0, x1, x2]) cP ((3 : Int32)) h0 O0 E0 Fv Fc Bx SC hP rfl) (tw hw 43 rfl) (tw hw 11 rfl) e0 (argsL := []) (rest := [(.int (64 : Int32)), (.ref s1)]) (W := 2) rfl rfl pd_11 rfl (Nat.le_of_eq rfl) rfl (by decide) (by decide) (by decide) (by decide) d7_3 rfl ?_
  intro T101 v101 L101 X101 q101
  obtain ⟨rfl, rfl, e101⟩ := q101
  have N101 := Fr.app N0 (Fr.nil _)
  refine Go.iconst (z := (1 : Int32)) (pc' := 7) C X101 d7_6 rfl rfl ?_
  refine Go.isub (pc' := 8) C X101 d7_7 rfl ?_
  rw [show ((3 : Int32) - (1 : Int32)) = (2 : Int32) from by decide]
  refine Go.callV (y := mN9) (z := mN9) (a := s1) (pc' := 11) C X101 (tw hw 50 rfl) (tw hw 51 rfl) (notFace_at C.2.1 (tw hw 53 rfl)) (tw hw 53 rfl) (tw hw 52 rfl) E0 (by decide) (rm_lj32 l Z a0 hw s1 v k x0 x1 x2 cP h0 O0 E0 Fv Fc Bx SC hx0 hx1 hx2 qe2 hP) (tw hw 54 rfl) (tw hw 11 rfl) e101 (argsL := [(.int (64 : Int32)), (.int (2 : Int32))]) (rest := []) (W := 0) rfl rfl pd_17 rfl (Nat.le_of_eq rfl) rfl (by decide) (by decide) (by decide) (by decide) d7_8 rfl ?_
  intro T102 v102 L102 X102 q102
  obtain ⟨rfl, rfl, e102⟩ := q102
  have N102 := Fr.app N101 (Fr.nil _)
  exact Go.retI C X102 rfl d7_11 (by rw [e102]; exact ⟨rfl, (by simp), rfl⟩) (by decide) (by decide)
def Q_sc32 (Z : State) (s1 : Addr) (v : Addr) (k : ClassId) (x0 : Int32) (x1 : Int32) (x2 : Int32) (cP : Int32) (fm : Value) (h0 : Heap) (rv : Option Value) (h : Heap) (L : List Loc) : Prop := ∃ o : Addr, ∃ r : Addr, ∃ u : Addr, ∃ ku : ClassId, rv = some (.ref o) ∧ Fr Z.heap.size L ∧ Keep h0 h [] ∧ h0.size ≤ o ∧ Exa Z h o "java/util/Optional" ∧ Fld Z h o "java/util/Optional" "value" "Ljava/lang/Object;" (.ref r) ∧ Exa Z h r "java/lang/String" ∧ Fld Z h r "java/lang/String" "value" "[B" (.ref u) ∧ Fld Z h r "java/lang/String" "coder" "B" (.int (0 : Int32)) ∧ AL Z h u ku .byte (by8 [])
theorem rm_sc32 (l : Launch) (Z : State) (a0 : Array Value) (hw : ∀ d ∈ tables_1, d.before a0 Z = true) (s1 : Addr) (v : Addr) (k : ClassId) (x0 : Int32) (x1 : Int32) (x2 : Int32) (cP : Int32) (fm : Value) (h0 : Heap) (O0 : Ext Z.heap h0) (E0 : Exa Z h0 s1 "java/lang/String") (Fv : Fld Z h0 s1 "java/lang/String" "value" "[B" (.ref v)) (Fc : Fld Z h0 s1 "java/lang/String" "coder" "B" (.int (0 : Int32))) (Bx : AL Z h0 v k .byte (by8 [x0, x1, x2])) (SC : Sta Z Z.heap "java/lang/String" "COMPACT_STRINGS" "Z" (.int cP)) (SF : Sta Z Z.heap "jdk/internal/util/Preconditions" "SIOOBE_FORMATTER" "Ljava/util/function/BiFunction;" fm) (hx0 : 0 ≤ x0.toInt ∧ x0.toInt ≤ 255) (hx1 : 0 ≤ x1.toInt ∧ x1.toInt ≤ 255) (hx2 : 0 ≤ x2.toInt ∧ x2.toInt ≤ 255) (qe2 : x2 = (64 : Int32)) (hP : ¬ cP = (0 : Int32)) (hfm : fm.category = 1) :
    Met1H consts_1 [] l Z mN30 prog_20_method_8_code 2 (some (.object "java/util/Optional")) ({ frames := 4, cells := 3, slots := 5, locals := 58 } : Room) #[(.ref s1)] h0 (Q_sc32 Z s1 v k x0 x1 x2 cP fm h0) := by
  refine Met1H.of_body (Ls := #[.val (.ref s1), .unset]) pf_6 (fun m => by first | (simp [entryFrame, mkF, argsToLocals, Value.category]; done) | rfl) ?_
  intro p e s m below meth c T0 C X0 e0 hH0 hsf0
  have Hr0 := CHr.refl hH0
  have N0 : Fr Z.heap.size [] := Fr.nil _
  have Si0 : Sin s s h0 := Sin.start s h0
  refine Go.aloadN (pc' := 1) C X0 d6_0 rfl rfl rfl ?_
  refine Go.bipush (z := (64 : Int32)) (pc' := 3) C X0 d6_1 rfl rfl ?_
  refine Go.callV (y := mN8) (z := mN8) (a := s1) (pc' := 6) C X0 (tw hw 34 rfl) (tw hw 35 rfl) (notFace_at C.2.1 (tw hw 37 rfl)) (tw hw 37 rfl) (tw hw 36 rfl) E0 (by decide) (rm_lk32 l Z a0 hw s1 v k x0 x1 x2 cP h0 O0 E0 Fv Fc Bx SC hx0 hx1 hx2 qe2 hP) (tw hw 38 rfl) (tw hw 11 rfl) e0 (argsL := [(.int (64 : Int32))]) (rest := []) (W := 0) rfl rfl pd_22 rfl (Nat.le_of_eq rfl) rfl (by decide) (by decide) (by decide) (by decide) d6_3 rfl ?_
  intro T101 v101 L101 X101 q101
  obtain ⟨rfl, rfl, e101⟩ := q101
  have N101 := Fr.app N0 (Fr.nil _)
  refine Go.istoreN (Ls' := #[.val (.ref s1), .val (.int (2 : Int32))]) (pc' := 7) C X101 d6_6 rfl rfl ?_
  refine Go.iloadN (pc' := 8) C X101 d6_7 rfl rfl ?_
  refine Go.ifYes (pc' := 17) C X101 d6_8 ((if0 _ _).trans (flt (x := (2 : Int32)) (y := (0 : Int32)) (by decide)).2.1) (by decide) (by decide) ?_
  refine Go.aloadN (pc' := 18) C X101 d6_17 rfl rfl rfl ?_
  refine Go.iloadN (pc' := 19) C X101 d6_18 rfl rfl ?_
  refine Go.iconst (z := (1 : Int32)) (pc' := 20) C X101 d6_19 rfl rfl ?_
  refine Go.iadd (pc' := 21) C X101 d6_20 rfl ?_
  rw [show ((2 : Int32) + (1 : Int32)) = (3 : Int32) from by decide]
  refine Go.callVH (y := mN11) (z := mN11) (a := s1) (pc' := 24) C X101 Si0 (EWc hw) Hr0.1 (tw hw 96 rfl) (tw hw 97 rfl) (notFace_at C.2.1 (tw hw 99 rfl)) (tw hw 99 rfl) (tw hw 98 rfl) E0 (by decide) all0 (rm_su133 l Z a0 hw s1 v k x0 x1 x2 cP fm h0 O0 E0 Fv Fc Bx SC SF hP hfm) (tw hw 100 rfl) (tw hw 11 rfl) e101 (argsL := [(.int (3 : Int32))]) (rest := []) (W := 0) rfl rfl pd_24 rfl (Nat.le_of_eq rfl) rfl (by decide) (by decide) (by decide) (by decide) d6_21 rfl ?_
  intro T103 v103 L103 sC103 C103 X103 Si103 hR103 q103
  obtain ⟨r_103, u_103, ku_103, rfl, N103q, K103, P103_0, P103_1, P103_2, P103_3⟩ := q103
  have N103 := Fr.app N101 N103q
  have Hr104 := CHr.trans Hr0 hR103
  have O106 : Ext Z.heap T103.heap := (Ext.keep O0 K103 all0)
  refine Go.callS (y := mN28) (pc' := 27) C103 X103 (tw hw 118 rfl) (tw hw 119 rfl) (by decide) (rm_oof l Z a0 hw r_103 T103.heap O106 ) (tw hw 120 rfl) (tw hw 73 rfl) rfl (argsL := [(.ref r_103)]) (rest := []) (W := 0) rfl rfl pd_25 rfl (Nat.le_of_eq rfl) rfl (by decide) (by decide) (by decide) (by decide) d6_24 rfl ?_
  intro T105 v105 L105 X105 q105
  obtain ⟨o_105, rfl, N105q, K105, B105_0, P105_0, P105_1⟩ := q105
  have N105 := Fr.app N103 N105q
  have Hr107 := CHr.trans Hr104 (CHr.keep K105 all0 Hr104.1)
  have n_o_105 : Z.heap.size ≤ o_105 := Nat.le_trans O106.1 B105_0
  have z_o_105 : h0.size ≤ o_105 := Nat.le_trans (Nat.le_trans (Nat.le_refl _) K103.1) B105_0
  have s_o_105 : Safe Z consts_1 sC103.vm T105.heap o_105 := Safe.keep K105 all0 Hr104.1 (Safe.new B105_0)
  have K108 : Keep h0 T105.heap [] := (((Keep.refl h0 []).trans K103 all0).trans K105 all0)
  have c109 : Exa Z T105.heap r_103 "java/lang/String" := (Exa.keep P103_0 K105)
  have c110 : Fld Z T105.heap r_103 "java/lang/String" "value" "[B" (.ref u_103) := (Fld.keep P103_1 K105 nin0)
  have c111 : Fld Z T105.heap r_103 "java/lang/String" "coder" "B" (.int (0 : Int32)) := (Fld.keep P103_2 K105 nin0)
  have c112 : AL Z T105.heap u_103 ku_103 .byte (by8 []) := (AL.keep P103_3 K105 nin0)
  have Si113 : Sin s sC103 T105.heap := Sin.mono Si103 (Nat.le_trans (Nat.le_refl _) K105.1)
  exact Go.retAH C103 X105 Si113 (EWc hw) Hr107 rfl d6_27 rfl rfl rfl ⟨o_105, r_103, u_103, ku_103, rfl, N105, K108, z_o_105, P105_0, P105_1, c109, c110, c111, c112⟩ (by decide) (by decide)
def Q_li4m (Z : State) (v : Addr) (k : ClassId) (x0 : Int32) (x1 : Int32) (x2 : Int32) (x3 : Int32) (h0 : Heap) (rv : Option Value) (h : Heap) (L : List Loc) : Prop := rv = some (.int (-1 : Int32)) ∧ L = [] ∧ h = h0
theorem rm_li4m (l : Launch) (Z : State) (a0 : Array Value) (hw : ∀ d ∈ tables_1, d.before a0 Z = true) (v : Addr) (k : ClassId) (x0 : Int32) (x1 : Int32) (x2 : Int32) (x3 : Int32) (h0 : Heap) (O0 : Ext Z.heap h0) (Bx : AL Z h0 v k .byte (by8 [x0, x1, x2, x3])) (hx0 : 0 ≤ x0.toInt ∧ x0.toInt ≤ 255) (hx1 : 0 ≤ x1.toInt ∧ x1.toInt ≤ 255) (hx2 : 0 ≤ x2.toInt ∧ x2.toInt ≤ 255) (hx3 : 0 ≤ x3.toInt ∧ x3.toInt ≤ 255) (qe0 : ¬ x0 = (64 : Int32)) (qe1 : ¬ x1 = (64 : Int32)) (qe2 : ¬ x2 = (64 : Int32)) (qe3 : ¬ x3 = (64 : Int32)) :
    Met1 l Z mN15 jdk_43_method_27_code 4 (some .int) ({ frames := 1, cells := 0, slots := 0, locals := 13 } : Room) #[(.ref v), (.int (64 : Int32)), (.int (3 : Int32))] h0 (Q_li4m Z v k x0 x1 x2 x3 h0) := by
  refine Met1.of_body (Ls := #[.val (.ref v), .val (.int (64 : Int32)), .val (.int (3 : Int32)), .unset]) pf_12 (fun m => by first | (simp [entryFrame, mkF, argsToLocals, Value.category]; done) | rfl) ?_
  intro p e s m below meth c T0 C X0 e0
  have N0 : Fr Z.heap.size [] := Fr.nil _
  refine Go.iloadN (pc' := 1) C X0 d12_0 rfl rfl ?_
  refine Go.callS (y := mN13) (pc' := 4) C X0 (tw hw 64 rfl) (tw hw 65 rfl) (by decide) (rm_ce l Z a0 hw  h0 O0 ) (tw hw 66 rfl) (tw hw 62 rfl) e0 (argsL := [(.int (64 : Int32))]) (rest := []) (W := 0) rfl rfl pd_20 rfl (Nat.le_of_eq rfl) rfl (by decide) (by decide) (by decide) (by decide) d12_1 rfl ?_
  intro T101 v101 L101 X101 q101
  obtain ⟨rfl, rfl, e101⟩ := q101
  have N101 := Fr.app N0 (Fr.nil _)
  refine Go.ifYes (pc' := 9) C X101 d12_4 ((if0 _ _).trans (feq (x := (1 : Int32)) (y := (0 : Int32)) (by decide)).2) (by decide) (by decide) ?_
  refine Go.iloadN (pc' := 10) C X101 d12_9 rfl rfl ?_
  refine Go.aloadN (pc' := 11) C X101 d12_10 rfl rfl rfl ?_
  refine Go.alen (z := (4 : Int32)) (pc' := 12) C X101 e101 Bx (by rw [by8_len]; rfl) d12_11 rfl ?_
  refine Go.iconst (z := (1 : Int32)) (pc' := 13) C X101 d12_12 rfl rfl ?_
  refine Go.isub (pc' := 14) C X101 d12_13 rfl ?_
  rw [show ((4 : Int32) - (1 : Int32)) = (3 : Int32) from by decide]
  refine Go.callS (y := mN0) (pc' := 17) C X101 (tw hw 67 rfl) (tw hw 68 rfl) (by decide) (rm_mn l Z a0 hw ((3 : Int32)) h0 O0 ) (tw hw 70 rfl) (tw hw 69 rfl) e101 (argsL := [(.int (3 : Int32)), (.int (3 : Int32))]) (rest := []) (W := 0) rfl rfl pd_17 rfl (Nat.le_of_eq rfl) rfl (by decide) (by decide) (by decide) (by decide) d12_14 rfl ?_
  intro T103 v103 L103 X103 q103
  obtain ⟨rfl, rfl, e103⟩ := q103
  have N103 := Fr.app N101 (Fr.nil _)
  refine Go.istoreN (Ls' := #[.val (.ref v), .val (.int (64 : Int32)), .val (.int (3 : Int32)), .val (.int (3 : Int32))]) (pc' := 18) C X103 d12_17 rfl rfl ?_
  refine Go.iloadN (pc' := 19) C X103 d12_18 rfl rfl ?_
  refine Go.ifNo (pc' := 22) C X103 d12_19 ((if0 _ _).trans (flt (x := (3 : Int32)) (y := (0 : Int32)) (by decide)).1) rfl ?_
  refine Go.aloadN (pc' := 23) C X103 d12_22 rfl rfl rfl ?_
  refine Go.iloadN (pc' := 24) C X103 d12_23 rfl rfl ?_
  refine Go.ldB (i := 3) (v := (.int x3.toInt8.toInt32)) (pc' := 25) C X103 e103 Bx (by decide) (by decide) (by8_get rfl) d12_24 rfl ?_
  refine Go.iloadN (pc' := 26) C X103 d12_25 rfl rfl ?_
  refine Go.i2b (pc' := 27) C X103 d12_26 rfl ?_
  refine Go.icmpYes (pc' := 32) C X103 d12_27 (feq (x := x3.toInt8.toInt32) (y := ((64 : Int32).toInt8.toInt32)) (fun q => qe3 ((b64 hx3).mp q))).2 (by decide) (by decide) ?_
  refine Go.iinc (Ls' := #[.val (.ref v), .val (.int (64 : Int32)), .val (.int (3 : Int32)), .val (.int ((3 : Int32) + (-1 : Int32)))]) (z := (-1 : Int32)) (pc' := 35) C X103 d12_32 rfl rfl rfl rfl ?_
  rw [show ((3 : Int32) + (-1 : Int32)) = (2 : Int32) from by decide]
  refine Go.goto (pc' := 18) C X103 d12_35 (by decide) (by decide) ?_
  refine Go.iloadN (pc' := 19) C X103 d12_18 rfl rfl ?_
  refine Go.ifNo (pc' := 22) C X103 d12_19 ((if0 _ _).trans (flt (x := (2 : Int32)) (y := (0 : Int32)) (by decide)).1) rfl ?_
  refine Go.aloadN (pc' := 23) C X103 d12_22 rfl rfl rfl ?_
  refine Go.iloadN (pc' := 24) C X103 d12_23 rfl rfl ?_
  refine Go.ldB (i := 2) (v := (.int x2.toInt8.toInt32)) (pc' := 25) C X103 e103 Bx (by decide) (by decide) (by8_get rfl) d12_24 rfl ?_
  refine Go.iloadN (pc' := 26) C X103 d12_25 rfl rfl ?_
  refine Go.i2b (pc' := 27) C X103 d12_26 rfl ?_
  refine Go.icmpYes (pc' := 32) C X103 d12_27 (feq (x := x2.toInt8.toInt32) (y := ((64 : Int32).toInt8.toInt32)) (fun q => qe2 ((b64 hx2).mp q))).2 (by decide) (by decide) ?_
  refine Go.iinc (Ls' := #[.val (.ref v), .val (.int (64 : Int32)), .val (.int (3 : Int32)), .val (.int ((2 : Int32) + (-1 : Int32)))]) (z := (-1 : Int32)) (pc' := 35) C X103 d12_32 rfl rfl rfl rfl ?_
  rw [show ((2 : Int32) + (-1 : Int32)) = (1 : Int32) from by decide]
  refine Go.goto (pc' := 18) C X103 d12_35 (by decide) (by decide) ?_
  refine Go.iloadN (pc' := 19) C X103 d12_18 rfl rfl ?_
  refine Go.ifNo (pc' := 22) C X103 d12_19 ((if0 _ _).trans (flt (x := (1 : Int32)) (y := (0 : Int32)) (by decide)).1) rfl ?_
  refine Go.aloadN (pc' := 23) C X103 d12_22 rfl rfl rfl ?_
  refine Go.iloadN (pc' := 24) C X103 d12_23 rfl rfl ?_
  refine Go.ldB (i := 1) (v := (.int x1.toInt8.toInt32)) (pc' := 25) C X103 e103 Bx (by decide) (by decide) (by8_get rfl) d12_24 rfl ?_
  refine Go.iloadN (pc' := 26) C X103 d12_25 rfl rfl ?_
  refine Go.i2b (pc' := 27) C X103 d12_26 rfl ?_
  refine Go.icmpYes (pc' := 32) C X103 d12_27 (feq (x := x1.toInt8.toInt32) (y := ((64 : Int32).toInt8.toInt32)) (fun q => qe1 ((b64 hx1).mp q))).2 (by decide) (by decide) ?_
  refine Go.iinc (Ls' := #[.val (.ref v), .val (.int (64 : Int32)), .val (.int (3 : Int32)), .val (.int ((1 : Int32) + (-1 : Int32)))]) (z := (-1 : Int32)) (pc' := 35) C X103 d12_32 rfl rfl rfl rfl ?_
  rw [show ((1 : Int32) + (-1 : Int32)) = (0 : Int32) from by decide]
  refine Go.goto (pc' := 18) C X103 d12_35 (by decide) (by decide) ?_
  refine Go.iloadN (pc' := 19) C X103 d12_18 rfl rfl ?_
  refine Go.ifNo (pc' := 22) C X103 d12_19 ((if0 _ _).trans (flt (x := (0 : Int32)) (y := (0 : Int32)) (by decide)).1) rfl ?_
  refine Go.aloadN (pc' := 23) C X103 d12_22 rfl rfl rfl ?_
  refine Go.iloadN (pc' := 24) C X103 d12_23 rfl rfl ?_
  refine Go.ldB (i := 0) (v := (.int x0.toInt8.toInt32)) (pc' := 25) C X103 e103 Bx (by decide) (by decide) (by8_get rfl) d12_24 rfl ?_
  refine Go.iloadN (pc' := 26) C X103 d12_25 rfl rfl ?_
  refine Go.i2b (pc' := 27) C X103 d12_26 rfl ?_
  refine Go.icmpYes (pc' := 32) C X103 d12_27 (feq (x := x0.toInt8.toInt32) (y := ((64 : Int32).toInt8.toInt32)) (fun q => qe0 ((b64 hx0).mp q))).2 (by decide) (by decide) ?_
  refine Go.iinc (Ls' := #[.val (.ref v), .val (.int (64 : Int32)), .val (.int (3 : Int32)), .val (.int ((0 : Int32) + (-1 : Int32)))]) (z := (-1 : Int32)) (pc' := 35) C X103 d12_32 rfl rfl rfl rfl ?_
  rw [show ((0 : Int32) + (-1 : Int32)) = (-1 : Int32) from by decide]
  refine Go.goto (pc' := 18) C X103 d12_35 (by decide) (by decide) ?_
  refine Go.iloadN (pc' := 19) C X103 d12_18 rfl rfl ?_
  refine Go.ifYes (pc' := 38) C X103 d12_19 ((if0 _ _).trans (tlt (x := (-1 : Int32)) (y := (0 : Int32)) (by decide)).1) (by decide) (by decide) ?_
  refine Go.iconst (z := (-1 : Int32)) (pc' := 39) C X103 d12_38 rfl rfl ?_
  exact Go.retI C X103 rfl d12_39 (by rw [e103]; exact ⟨rfl, (by simp), rfl⟩) (by decide) (by decide)
def Q_lj4m (Z : State) (s1 : Addr) (v : Addr) (k : ClassId) (x0 : Int32) (x1 : Int32) (x2 : Int32) (x3 : Int32) (cP : Int32) (h0 : Heap) (rv : Option Value) (h : Heap) (L : List Loc) : Prop := rv = some (.int (-1 : Int32)) ∧ L = [] ∧ h = h0
theorem rm_lj4m (l : Launch) (Z : State) (a0 : Array Value) (hw : ∀ d ∈ tables_1, d.before a0 Z = true) (s1 : Addr) (v : Addr) (k : ClassId) (x0 : Int32) (x1 : Int32) (x2 : Int32) (x3 : Int32) (cP : Int32) (h0 : Heap) (O0 : Ext Z.heap h0) (E0 : Exa Z h0 s1 "java/lang/String") (Fv : Fld Z h0 s1 "java/lang/String" "value" "[B" (.ref v)) (Fc : Fld Z h0 s1 "java/lang/String" "coder" "B" (.int (0 : Int32))) (Bx : AL Z h0 v k .byte (by8 [x0, x1, x2, x3])) (SC : Sta Z Z.heap "java/lang/String" "COMPACT_STRINGS" "Z" (.int cP)) (hx0 : 0 ≤ x0.toInt ∧ x0.toInt ≤ 255) (hx1 : 0 ≤ x1.toInt ∧ x1.toInt ≤ 255) (hx2 : 0 ≤ x2.toInt ∧ x2.toInt ≤ 255) (hx3 : 0 ≤ x3.toInt ∧ x3.toInt ≤ 255) (qe0 : ¬ x0 = (64 : Int32)) (qe1 : ¬ x1 = (64 : Int32)) (qe2 : ¬ x2 = (64 : Int32)) (qe3 : ¬ x3 = (64 : Int32)) (hP : ¬ cP = (0 : Int32)) :
    Met1 l Z mN9 jdk_42_method_83_code 3 (some .int) ({ frames := 2, cells := 0, slots := 0, locals := 28 } : Room) #[(.ref s1), (.int (64 : Int32)), (.int (3 : Int32))] h0 (Q_lj4m Z s1 v k x0 x1 x2 x3 cP h0) := by
  refine Met1.of_body (Ls := #[.val (.ref s1), .val (.int (64 : Int32)), .val (.int (3 : Int32))]) pf_10 (fun m => by first | (simp [entryFrame, mkF, argsToLocals, Value.category]; done) | rfl) ?_
  intro p e s m below meth c T0 C X0 e0
  have N0 : Fr Z.heap.size [] := Fr.nil _
  refine Go.aloadN (pc' := 1) C X0 d10_0 rfl rfl rfl ?_
  refine Go.callV (y := mN7) (z := mN7) (a := s1) (pc' := 4) C X0 (tw hw 55 rfl) (tw hw 56 rfl) (notFace_at C.2.1 (tw hw 58 rfl)) (tw hw 58 rfl) (tw hw 57 rfl) E0 (by decide) (rm_isL l Z a0 hw s1 cP h0 O0 Fc SC hP) (tw hw 59 rfl) (tw hw 11 rfl) e0 (argsL := []) (rest := []) (W := 0) rfl rfl pd_13 rfl (Nat.le_of_eq rfl) rfl (by decide) (by decide) (by decide) (by decide) d10_1 rfl ?_
  intro T101 v101 L101 X101 q101
  obtain ⟨rfl, rfl, e101⟩ := q101
  have N101 := Fr.app N0 (Fr.nil _)
  refine Go.ifNo (pc' := 7) C X101 d10_4 ((if0 _ _).trans (feq (x := (1 : Int32)) (y := (0 : Int32)) (by decide)).1) rfl ?_
  refine Go.aloadN (pc' := 8) C X101 d10_7 rfl rfl rfl ?_
  refine Go.getF (pc' := 11) (host := "") C X101 (Or.inl (tw hw 28 rfl)) Via.refl e101 Fv d10_8 rfl ?_
  intro T103 X103 e103
  refine Go.iloadN (pc' := 12) C X103 d10_11 rfl rfl ?_
  refine Go.iloadN (pc' := 13) C X103 d10_12 rfl rfl ?_
  refine Go.callS (y := mN15) (pc' := 16) C X103 (tw hw 60 rfl) (tw hw 61 rfl) (by decide) (rm_li4m l Z a0 hw v k x0 x1 x2 x3 h0 O0 Bx hx0 hx1 hx2 hx3 qe0 qe1 qe2 qe3) (tw hw 63 rfl) (tw hw 62 rfl) e103 (argsL := [(.ref v), (.int (64 : Int32)), (.int (3 : Int32))]) (rest := []) (W := 0) rfl rfl pd_21 rfl (Nat.le_of_eq rfl) rfl (by decide) (by decide) (by decide) (by decide) d10_13 rfl ?_
  intro T104 v104 L104 X104 q104
  obtain ⟨rfl, rfl, e104⟩ := q104
  have N104 := Fr.app N101 (Fr.nil _)
  refine Go.goto (pc' := 28) C X104 d10_16 (by decide) (by decide) ?_
  exact Go.retI C X104 rfl d10_28 (by rw [e104]; exact ⟨rfl, (by simp), rfl⟩) (by decide) (by decide)
def Q_lk4m (Z : State) (s1 : Addr) (v : Addr) (k : ClassId) (x0 : Int32) (x1 : Int32) (x2 : Int32) (x3 : Int32) (cP : Int32) (h0 : Heap) (rv : Option Value) (h : Heap) (L : List Loc) : Prop := rv = some (.int (-1 : Int32)) ∧ L = [] ∧ h = h0
theorem rm_lk4m (l : Launch) (Z : State) (a0 : Array Value) (hw : ∀ d ∈ tables_1, d.before a0 Z = true) (s1 : Addr) (v : Addr) (k : ClassId) (x0 : Int32) (x1 : Int32) (x2 : Int32) (x3 : Int32) (cP : Int32) (h0 : Heap) (O0 : Ext Z.heap h0) (E0 : Exa Z h0 s1 "java/lang/String") (Fv : Fld Z h0 s1 "java/lang/String" "value" "[B" (.ref v)) (Fc : Fld Z h0 s1 "java/lang/String" "coder" "B" (.int (0 : Int32))) (Bx : AL Z h0 v k .byte (by8 [x0, x1, x2, x3])) (SC : Sta Z Z.heap "java/lang/String" "COMPACT_STRINGS" "Z" (.int cP)) (hx0 : 0 ≤ x0.toInt ∧ x0.toInt ≤ 255) (hx1 : 0 ≤ x1.toInt ∧ x1.toInt ≤ 255) (hx2 : 0 ≤ x2.toInt ∧ x2.toInt ≤ 255) (hx3 : 0 ≤ x3.toInt ∧ x3.toInt ≤ 255) (qe0 : ¬ x0 = (64 : Int32)) (qe1 : ¬ x1 = (64 : Int32)) (qe2 : ¬ x2 = (64 : Int32)) (qe3 : ¬ x3 = (64 : Int32)) (hP : ¬ cP = (0 : Int32)) :
    Met1 l Z mN8 jdk_42_method_82_code 2 (some .int) ({ frames := 3, cells := 0, slots := 0, locals := 42 } : Room) #[(.ref s1), (.int (64 : Int32))] h0 (Q_lk4m Z s1 v k x0 x1 x2 x3 cP h0) := by
  refine Met1.of_body (Ls := #[.val (.ref s1), .val (.int (64 : Int32))]) pf_7 (fun m => by first | (simp [entryFrame, mkF, argsToLocals, Value.category]; done) | rfl) ?_
  intro p e s m below meth c T0 C X0 e0
  have N0 : Fr Z.heap.size [] := Fr.nil _
  refine Go.aloadN (pc' := 1) C X0 d7_0 rfl rfl rfl ?_
  refine Go.iloadN (pc' := 2) C X0 d7_1 rfl rfl ?_
  refine Go.aloadN (pc' := 3) C X0 d7_2 rfl rfl rfl ?_
  refine Go.callV (y := mN10) (z := mN10) (a := s1) (pc' := 6) C X0 (tw hw 39 rfl) (tw hw 40 rfl) (notFace_at C.2.1 (tw hw 42 rfl)) (tw hw 42 rfl) (tw hw 41 rfl) E0 (by decide) (rm_len l Z a0 hw s1 v k ([x0, x1, x2, x3]) cP ((4 : Int32)) h0 O0 E0 Fv Fc Bx SC hP rfl) (tw hw 43 rfl) (tw hw 11 rfl) e0 (argsL := []) (rest := [(.int (64 : Int32)), (.ref s1)]) (W := 2) rfl rfl pd_11 rfl (Nat.le_of_eq rfl) rfl (by decide) (by decide) (by decide) (by decide) d7_3 rfl ?_
  intro T101 v101 L101 X101 q101
  obtain ⟨rfl, rfl, e101⟩ := q101
  have N101 := Fr.app N0 (Fr.nil _)
  refine Go.iconst (z := (1 : Int32)) (pc' := 7) C X101 d7_6 rfl rfl ?_
  refine Go.isub (pc' := 8) C X101 d7_7 rfl ?_
  rw [show ((4 : Int32) - (1 : Int32)) = (3 : Int32) from by decide]
  refine Go.callV (y := mN9) (z := mN9) (a := s1) (pc' := 11) C X101 (tw hw 50 rfl) (tw hw 51 rfl) (notFace_at C.2.1 (tw hw 53 rfl)) (tw hw 53 rfl) (tw hw 52 rfl) E0 (by decide) (rm_lj4m l Z a0 hw s1 v k x0 x1 x2 x3 cP h0 O0 E0 Fv Fc Bx SC hx0 hx1 hx2 hx3 qe0 qe1 qe2 qe3 hP) (tw hw 54 rfl) (tw hw 11 rfl) e101 (argsL := [(.int (64 : Int32)), (.int (3 : Int32))]) (rest := []) (W := 0) rfl rfl pd_17 rfl (Nat.le_of_eq rfl) rfl (by decide) (by decide) (by decide) (by decide) d7_8 rfl ?_
  intro T102 v102 L102 X102 q102
  obtain ⟨rfl, rfl, e102⟩ := q102
  have N102 := Fr.app N101 (Fr.nil _)
  exact Go.retI C X102 rfl d7_11 (by rw [e102]; exact ⟨rfl, (by simp), rfl⟩) (by decide) (by decide)
def Q_sc4m (Z : State) (s1 : Addr) (v : Addr) (k : ClassId) (x0 : Int32) (x1 : Int32) (x2 : Int32) (x3 : Int32) (cP : Int32) (em : Addr) (h0 : Heap) (rv : Option Value) (h : Heap) (L : List Loc) : Prop := rv = some (.ref em) ∧ L = [] ∧ h = h0
theorem rm_sc4m (l : Launch) (Z : State) (a0 : Array Value) (hw : ∀ d ∈ tables_1, d.before a0 Z = true) (s1 : Addr) (v : Addr) (k : ClassId) (x0 : Int32) (x1 : Int32) (x2 : Int32) (x3 : Int32) (cP : Int32) (em : Addr) (h0 : Heap) (O0 : Ext Z.heap h0) (E0 : Exa Z h0 s1 "java/lang/String") (Fv : Fld Z h0 s1 "java/lang/String" "value" "[B" (.ref v)) (Fc : Fld Z h0 s1 "java/lang/String" "coder" "B" (.int (0 : Int32))) (Bx : AL Z h0 v k .byte (by8 [x0, x1, x2, x3])) (SC : Sta Z Z.heap "java/lang/String" "COMPACT_STRINGS" "Z" (.int cP)) (SE : Sta Z Z.heap "java/util/Optional" "EMPTY" "Ljava/util/Optional;" (.ref em)) (hx0 : 0 ≤ x0.toInt ∧ x0.toInt ≤ 255) (hx1 : 0 ≤ x1.toInt ∧ x1.toInt ≤ 255) (hx2 : 0 ≤ x2.toInt ∧ x2.toInt ≤ 255) (hx3 : 0 ≤ x3.toInt ∧ x3.toInt ≤ 255) (qe0 : ¬ x0 = (64 : Int32)) (qe1 : ¬ x1 = (64 : Int32)) (qe2 : ¬ x2 = (64 : Int32)) (qe3 : ¬ x3 = (64 : Int32)) (hP : ¬ cP = (0 : Int32)) :
    Met1 l Z mN30 prog_20_method_8_code 2 (some (.object "java/util/Optional")) ({ frames := 4, cells := 0, slots := 0, locals := 55 } : Room) #[(.ref s1)] h0 (Q_sc4m Z s1 v k x0 x1 x2 x3 cP em h0) := by
  refine Met1.of_body (Ls := #[.val (.ref s1), .unset]) pf_6 (fun m => by first | (simp [entryFrame, mkF, argsToLocals, Value.category]; done) | rfl) ?_
  intro p e s m below meth c T0 C X0 e0
  have N0 : Fr Z.heap.size [] := Fr.nil _
  refine Go.aloadN (pc' := 1) C X0 d6_0 rfl rfl rfl ?_
  refine Go.bipush (z := (64 : Int32)) (pc' := 3) C X0 d6_1 rfl rfl ?_
  refine Go.callV (y := mN8) (z := mN8) (a := s1) (pc' := 6) C X0 (tw hw 34 rfl) (tw hw 35 rfl) (notFace_at C.2.1 (tw hw 37 rfl)) (tw hw 37 rfl) (tw hw 36 rfl) E0 (by decide) (rm_lk4m l Z a0 hw s1 v k x0 x1 x2 x3 cP h0 O0 E0 Fv Fc Bx SC hx0 hx1 hx2 hx3 qe0 qe1 qe2 qe3 hP) (tw hw 38 rfl) (tw hw 11 rfl) e0 (argsL := [(.int (64 : Int32))]) (rest := []) (W := 0) rfl rfl pd_22 rfl (Nat.le_of_eq rfl) rfl (by decide) (by decide) (by decide) (by decide) d6_3 rfl ?_
  intro T101 v101 L101 X101 q101
  obtain ⟨rfl, rfl, e101⟩ := q101
  have N101 := Fr.app N0 (Fr.nil _)
  refine Go.istoreN (Ls' := #[.val (.ref s1), .val (.int (-1 : Int32))]) (pc' := 7) C X101 d6_6 rfl rfl ?_
  refine Go.iloadN (pc' := 8) C X101 d6_7 rfl rfl ?_
  refine Go.ifNo (pc' := 11) C X101 d6_8 ((if0 _ _).trans (tlt (x := (-1 : Int32)) (y := (0 : Int32)) (by decide)).2.1) rfl ?_
  refine Go.callS (y := mN25) (pc' := 14) C X101 (tw hw 71 rfl) (tw hw 72 rfl) (by decide) (rm_oem l Z a0 hw em h0 O0 SE) (tw hw 74 rfl) (tw hw 73 rfl) e101 (argsL := []) (rest := []) (W := 0) rfl rfl pd_23 rfl (Nat.le_of_eq rfl) rfl (by decide) (by decide) (by decide) (by decide) d6_11 rfl ?_
  intro T103 v103 L103 X103 q103
  obtain ⟨rfl, rfl, e103⟩ := q103
  have N103 := Fr.app N101 (Fr.nil _)
  refine Go.goto (pc' := 27) C X103 d6_14 (by decide) (by decide) ?_
  exact Go.retA C X103 rfl d6_27 rfl rfl rfl (by rw [e103]; exact ⟨rfl, (by simp), rfl⟩) (by decide) (by decide)
def Q_li40 (Z : State) (v : Addr) (k : ClassId) (x0 : Int32) (x1 : Int32) (x2 : Int32) (x3 : Int32) (h0 : Heap) (rv : Option Value) (h : Heap) (L : List Loc) : Prop := rv = some (.int (0 : Int32)) ∧ L = [] ∧ h = h0
theorem rm_li40 (l : Launch) (Z : State) (a0 : Array Value) (hw : ∀ d ∈ tables_1, d.before a0 Z = true) (v : Addr) (k : ClassId) (x0 : Int32) (x1 : Int32) (x2 : Int32) (x3 : Int32) (h0 : Heap) (O0 : Ext Z.heap h0) (Bx : AL Z h0 v k .byte (by8 [x0, x1, x2, x3])) (hx0 : 0 ≤ x0.toInt ∧ x0.toInt ≤ 255) (hx1 : 0 ≤ x1.toInt ∧ x1.toInt ≤ 255) (hx2 : 0 ≤ x2.toInt ∧ x2.toInt ≤ 255) (hx3 : 0 ≤ x3.toInt ∧ x3.toInt ≤ 255) (qe0 : x0 = (64 : Int32)) (qe1 : ¬ x1 = (64 : Int32)) (qe2 : ¬ x2 = (64 : Int32)) (qe3 : ¬ x3 = (64 : Int32)) :
    Met1 l Z mN15 jdk_43_method_27_code 4 (some .int) ({ frames := 1, cells := 0, slots := 0, locals := 13 } : Room) #[(.ref v), (.int (64 : Int32)), (.int (3 : Int32))] h0 (Q_li40 Z v k x0 x1 x2 x3 h0) := by
  refine Met1.of_body (Ls := #[.val (.ref v), .val (.int (64 : Int32)), .val (.int (3 : Int32)), .unset]) pf_12 (fun m => by first | (simp [entryFrame, mkF, argsToLocals, Value.category]; done) | rfl) ?_
  intro p e s m below meth c T0 C X0 e0
  have N0 : Fr Z.heap.size [] := Fr.nil _
  refine Go.iloadN (pc' := 1) C X0 d12_0 rfl rfl ?_
  refine Go.callS (y := mN13) (pc' := 4) C X0 (tw hw 64 rfl) (tw hw 65 rfl) (by decide) (rm_ce l Z a0 hw  h0 O0 ) (tw hw 66 rfl) (tw hw 62 rfl) e0 (argsL := [(.int (64 : Int32))]) (rest := []) (W := 0) rfl rfl pd_20 rfl (Nat.le_of_eq rfl) rfl (by decide) (by decide) (by decide) (by decide) d12_1 rfl ?_
  intro T101 v101 L101 X101 q101
  obtain ⟨rfl, rfl, e101⟩ := q101
  have N101 := Fr.app N0 (Fr.nil _)
  refine Go.ifYes (pc' := 9) C X101 d12_4 ((if0 _ _).trans (feq (x := (1 : Int32)) (y := (0 : Int32)) (by decide)).2) (by decide) (by decide) ?_
  refine Go.iloadN (pc' := 10) C X101 d12_9 rfl rfl ?_
  refine Go.aloadN (pc' := 11) C X101 d12_10 rfl rfl rfl ?_
  refine Go.alen (z := (4 : Int32)) (pc' := 12) C X101 e101 Bx (by rw [by8_len]; rfl) d12_11 rfl ?_
  refine Go.iconst (z := (1 : Int32)) (pc' := 13) C X101 d12_12 rfl rfl ?_
  refine Go.isub (pc' := 14) C X101 d12_13 rfl ?_
  rw [show ((4 : Int32) - (1 : Int32)) = (3 : Int32) from by decide]
  refine Go.callS (y := mN0) (pc' := 17) C X101 (tw hw 67 rfl) (tw hw 68 rfl) (by decide) (rm_mn l Z a0 hw ((3 : Int32)) h0 O0 ) (tw hw 70 rfl) (tw hw 69 rfl) e101 (argsL := [(.int (3 : Int32)), (.int (3 : Int32))]) (rest := []) (W := 0) rfl rfl pd_17 rfl (Nat.le_of_eq rfl) rfl (by decide) (by decide) (by decide) (by decide) d12_14 rfl ?_
  intro T103 v103 L103 X103 q103
  obtain ⟨rfl, rfl, e103⟩ := q103
  have N103 := Fr.app N101 (Fr.nil _)
  refine Go.istoreN (Ls' := #[.val (.ref v), .val (.int (64 : Int32)), .val (.int (3 : Int32)), .val (.int (3 : Int32))]) (pc' := 18) C X103 d12_17 rfl rfl ?_
  refine Go.iloadN (pc' := 19) C X103 d12_18 rfl rfl ?_
  refine Go.ifNo (pc' := 22) C X103 d12_19 ((if0 _ _).trans (flt (x := (3 : Int32)) (y := (0 : Int32)) (by decide)).1) rfl ?_
  refine Go.aloadN (pc' := 23) C X103 d12_22 rfl rfl rfl ?_
  refine Go.iloadN (pc' := 24) C X103 d12_23 rfl rfl ?_
  refine Go.ldB (i := 3) (v := (.int x3.toInt8.toInt32)) (pc' := 25) C X103 e103 Bx (by decide) (by decide) (by8_get rfl) d12_24 rfl ?_
  refine Go.iloadN (pc' := 26) C X103 d12_25 rfl rfl ?_
  refine Go.i2b (pc' := 27) C X103 d12_26 rfl ?_
  refine Go.icmpYes (pc' := 32) C X103 d12_27 (feq (x := x3.toInt8.toInt32) (y := ((64 : Int32).toInt8.toInt32)) (fun q => qe3 ((b64 hx3).mp q))).2 (by decide) (by decide) ?_
  refine Go.iinc (Ls' := #[.val (.ref v), .val (.int (64 : Int32)), .val (.int (3 : Int32)), .val (.int ((3 : Int32) + (-1 : Int32)))]) (z := (-1 : Int32)) (pc' := 35) C X103 d12_32 rfl rfl rfl rfl ?_
  rw [show ((3 : Int32) + (-1 : Int32)) = (2 : Int32) from by decide]
  refine Go.goto (pc' := 18) C X103 d12_35 (by decide) (by decide) ?_
  refine Go.iloadN (pc' := 19) C X103 d12_18 rfl rfl ?_
  refine Go.ifNo (pc' := 22) C X103 d12_19 ((if0 _ _).trans (flt (x := (2 : Int32)) (y := (0 : Int32)) (by decide)).1) rfl ?_
  refine Go.aloadN (pc' := 23) C X103 d12_22 rfl rfl rfl ?_
  refine Go.iloadN (pc' := 24) C X103 d12_23 rfl rfl ?_
  refine Go.ldB (i := 2) (v := (.int x2.toInt8.toInt32)) (pc' := 25) C X103 e103 Bx (by decide) (by decide) (by8_get rfl) d12_24 rfl ?_
  refine Go.iloadN (pc' := 26) C X103 d12_25 rfl rfl ?_
  refine Go.i2b (pc' := 27) C X103 d12_26 rfl ?_
  refine Go.icmpYes (pc' := 32) C X103 d12_27 (feq (x := x2.toInt8.toInt32) (y := ((64 : Int32).toInt8.toInt32)) (fun q => qe2 ((b64 hx2).mp q))).2 (by decide) (by decide) ?_
  refine Go.iinc (Ls' := #[.val (.ref v), .val (.int (64 : Int32)), .val (.int (3 : Int32)), .val (.int ((2 : Int32) + (-1 : Int32)))]) (z := (-1 : Int32)) (pc' := 35) C X103 d12_32 rfl rfl rfl rfl ?_
  rw [show ((2 : Int32) + (-1 : Int32)) = (1 : Int32) from by decide]
  refine Go.goto (pc' := 18) C X103 d12_35 (by decide) (by decide) ?_
  refine Go.iloadN (pc' := 19) C X103 d12_18 rfl rfl ?_
  refine Go.ifNo (pc' := 22) C X103 d12_19 ((if0 _ _).trans (flt (x := (1 : Int32)) (y := (0 : Int32)) (by decide)).1) rfl ?_
  refine Go.aloadN (pc' := 23) C X103 d12_22 rfl rfl rfl ?_
  refine Go.iloadN (pc' := 24) C X103 d12_23 rfl rfl ?_
  refine Go.ldB (i := 1) (v := (.int x1.toInt8.toInt32)) (pc' := 25) C X103 e103 Bx (by decide) (by decide) (by8_get rfl) d12_24 rfl ?_
  refine Go.iloadN (pc' := 26) C X103 d12_25 rfl rfl ?_
  refine Go.i2b (pc' := 27) C X103 d12_26 rfl ?_
  refine Go.icmpYes (pc' := 32) C X103 d12_27 (feq (x := x1.toInt8.toInt32) (y := ((64 : Int32).toInt8.toInt32)) (fun q => qe1 ((b64 hx1).mp q))).2 (by decide) (by decide) ?_
  refine Go.iinc (Ls' := #[.val (.ref v), .val (.int (64 : Int32)), .val (.int (3 : Int32)), .val (.int ((1 : Int32) + (-1 : Int32)))]) (z := (-1 : Int32)) (pc' := 35) C X103 d12_32 rfl rfl rfl rfl ?_
  rw [show ((1 : Int32) + (-1 : Int32)) = (0 : Int32) from by decide]
  refine Go.goto (pc' := 18) C X103 d12_35 (by decide) (by decide) ?_
  refine Go.iloadN (pc' := 19) C X103 d12_18 rfl rfl ?_
  refine Go.ifNo (pc' := 22) C X103 d12_19 ((if0 _ _).trans (flt (x := (0 : Int32)) (y := (0 : Int32)) (by decide)).1) rfl ?_
  refine Go.aloadN (pc' := 23) C X103 d12_22 rfl rfl rfl ?_
  refine Go.iloadN (pc' := 24) C X103 d12_23 rfl rfl ?_
  refine Go.ldB (i := 0) (v := (.int x0.toInt8.toInt32)) (pc' := 25) C X103 e103 Bx (by decide) (by decide) (by8_get rfl) d12_24 rfl ?_
  refine Go.iloadN (pc' := 26) C X103 d12_25 rfl rfl ?_
  refine Go.i2b (pc' := 27) C X103 d12_26 rfl ?_
  refine Go.icmpNo (pc' := 30) C X103 d12_27 (teq (x := x0.toInt8.toInt32) (y := ((64 : Int32).toInt8.toInt32)) ((b64 hx0).mpr qe0)).2 rfl ?_
  refine Go.iloadN (pc' := 31) C X103 d12_30 rfl rfl ?_
  exact Go.retI C X103 rfl d12_31 (by rw [e103]; exact ⟨rfl, (by simp), rfl⟩) (by decide) (by decide)
def Q_lj40 (Z : State) (s1 : Addr) (v : Addr) (k : ClassId) (x0 : Int32) (x1 : Int32) (x2 : Int32) (x3 : Int32) (cP : Int32) (h0 : Heap) (rv : Option Value) (h : Heap) (L : List Loc) : Prop := rv = some (.int (0 : Int32)) ∧ L = [] ∧ h = h0
theorem rm_lj40 (l : Launch) (Z : State) (a0 : Array Value) (hw : ∀ d ∈ tables_1, d.before a0 Z = true) (s1 : Addr) (v : Addr) (k : ClassId) (x0 : Int32) (x1 : Int32) (x2 : Int32) (x3 : Int32) (cP : Int32) (h0 : Heap) (O0 : Ext Z.heap h0) (E0 : Exa Z h0 s1 "java/lang/String") (Fv : Fld Z h0 s1 "java/lang/String" "value" "[B" (.ref v)) (Fc : Fld Z h0 s1 "java/lang/String" "coder" "B" (.int (0 : Int32))) (Bx : AL Z h0 v k .byte (by8 [x0, x1, x2, x3])) (SC : Sta Z Z.heap "java/lang/String" "COMPACT_STRINGS" "Z" (.int cP)) (hx0 : 0 ≤ x0.toInt ∧ x0.toInt ≤ 255) (hx1 : 0 ≤ x1.toInt ∧ x1.toInt ≤ 255) (hx2 : 0 ≤ x2.toInt ∧ x2.toInt ≤ 255) (hx3 : 0 ≤ x3.toInt ∧ x3.toInt ≤ 255) (qe0 : x0 = (64 : Int32)) (qe1 : ¬ x1 = (64 : Int32)) (qe2 : ¬ x2 = (64 : Int32)) (qe3 : ¬ x3 = (64 : Int32)) (hP : ¬ cP = (0 : Int32)) :
    Met1 l Z mN9 jdk_42_method_83_code 3 (some .int) ({ frames := 2, cells := 0, slots := 0, locals := 28 } : Room) #[(.ref s1), (.int (64 : Int32)), (.int (3 : Int32))] h0 (Q_lj40 Z s1 v k x0 x1 x2 x3 cP h0) := by
  refine Met1.of_body (Ls := #[.val (.ref s1), .val (.int (64 : Int32)), .val (.int (3 : Int32))]) pf_10 (fun m => by first | (simp [entryFrame, mkF, argsToLocals, Value.category]; done) | rfl) ?_
  intro p e s m below meth c T0 C X0 e0
  have N0 : Fr Z.heap.size [] := Fr.nil _
  refine Go.aloadN (pc' := 1) C X0 d10_0 rfl rfl rfl ?_
  refine Go.callV (y := mN7) (z := mN7) (a := s1) (pc' := 4) C X0 (tw hw 55 rfl) (tw hw 56 rfl) (notFace_at C.2.1 (tw hw 58 rfl)) (tw hw 58 rfl) (tw hw 57 rfl) E0 (by decide) (rm_isL l Z a0 hw s1 cP h0 O0 Fc SC hP) (tw hw 59 rfl) (tw hw 11 rfl) e0 (argsL := []) (rest := []) (W := 0) rfl rfl pd_13 rfl (Nat.le_of_eq rfl) rfl (by decide) (by decide) (by decide) (by decide) d10_1 rfl ?_
  intro T101 v101 L101 X101 q101
  obtain ⟨rfl, rfl, e101⟩ := q101
  have N101 := Fr.app N0 (Fr.nil _)
  refine Go.ifNo (pc' := 7) C X101 d10_4 ((if0 _ _).trans (feq (x := (1 : Int32)) (y := (0 : Int32)) (by decide)).1) rfl ?_
  refine Go.aloadN (pc' := 8) C X101 d10_7 rfl rfl rfl ?_
  refine Go.getF (pc' := 11) (host := "") C X101 (Or.inl (tw hw 28 rfl)) Via.refl e101 Fv d10_8 rfl ?_
  intro T103 X103 e103
  refine Go.iloadN (pc' := 12) C X103 d10_11 rfl rfl ?_
  refine Go.iloadN (pc' := 13) C X103 d10_12 rfl rfl ?_
  refine Go.callS (y := mN15) (pc' := 16) C X103 (tw hw 60 rfl) (tw hw 61 rfl) (by decide) (rm_li40 l Z a0 hw v k x0 x1 x2 x3 h0 O0 Bx hx0 hx1 hx2 hx3 qe0 qe1 qe2 qe3) (tw hw 63 rfl) (tw hw 62 rfl) e103 (argsL := [(.ref v), (.int (64 : Int32)), (.int (3 : Int32))]) (rest := []) (W := 0) rfl rfl pd_21 rfl (Nat.le_of_eq rfl) rfl (by decide) (by decide) (by decide) (by decide) d10_13 rfl ?_
  intro T104 v104 L104 X104 q104
  obtain ⟨rfl, rfl, e104⟩ := q104
  have N104 := Fr.app N101 (Fr.nil _)
  refine Go.goto (pc' := 28) C X104 d10_16 (by decide) (by decide) ?_
  exact Go.retI C X104 rfl d10_28 (by rw [e104]; exact ⟨rfl, (by simp), rfl⟩) (by decide) (by decide)
def Q_lk40 (Z : State) (s1 : Addr) (v : Addr) (k : ClassId) (x0 : Int32) (x1 : Int32) (x2 : Int32) (x3 : Int32) (cP : Int32) (h0 : Heap) (rv : Option Value) (h : Heap) (L : List Loc) : Prop := rv = some (.int (0 : Int32)) ∧ L = [] ∧ h = h0
theorem rm_lk40 (l : Launch) (Z : State) (a0 : Array Value) (hw : ∀ d ∈ tables_1, d.before a0 Z = true) (s1 : Addr) (v : Addr) (k : ClassId) (x0 : Int32) (x1 : Int32) (x2 : Int32) (x3 : Int32) (cP : Int32) (h0 : Heap) (O0 : Ext Z.heap h0) (E0 : Exa Z h0 s1 "java/lang/String") (Fv : Fld Z h0 s1 "java/lang/String" "value" "[B" (.ref v)) (Fc : Fld Z h0 s1 "java/lang/String" "coder" "B" (.int (0 : Int32))) (Bx : AL Z h0 v k .byte (by8 [x0, x1, x2, x3])) (SC : Sta Z Z.heap "java/lang/String" "COMPACT_STRINGS" "Z" (.int cP)) (hx0 : 0 ≤ x0.toInt ∧ x0.toInt ≤ 255) (hx1 : 0 ≤ x1.toInt ∧ x1.toInt ≤ 255) (hx2 : 0 ≤ x2.toInt ∧ x2.toInt ≤ 255) (hx3 : 0 ≤ x3.toInt ∧ x3.toInt ≤ 255) (qe0 : x0 = (64 : Int32)) (qe1 : ¬ x1 = (64 : Int32)) (qe2 : ¬ x2 = (64 : Int32)) (qe3 : ¬ x3 = (64 : Int32)) (hP : ¬ cP = (0 : Int32)) :
    Met1 l Z mN8 jdk_42_method_82_code 2 (some .int) ({ frames := 3, cells := 0, slots := 0, locals := 42 } : Room) #[(.ref s1), (.int (64 : Int32))] h0 (Q_lk40 Z s1 v k x0 x1 x2 x3 cP h0) := by
  refine Met1.of_body (Ls := #[.val (.ref s1), .val (.int (64 : Int32))]) pf_7 (fun m => by first | (simp [entryFrame, mkF, argsToLocals, Value.category]; done) | rfl) ?_
  intro p e s m below meth c T0 C X0 e0
  have N0 : Fr Z.heap.size [] := Fr.nil _
  refine Go.aloadN (pc' := 1) C X0 d7_0 rfl rfl rfl ?_
  refine Go.iloadN (pc' := 2) C X0 d7_1 rfl rfl ?_
  refine Go.aloadN (pc' := 3) C X0 d7_2 rfl rfl rfl ?_
  refine Go.callV (y := mN10) (z := mN10) (a := s1) (pc' := 6) C X0 (tw hw 39 rfl) (tw hw 40 rfl) (notFace_at C.2.1 (tw hw 42 rfl)) (tw hw 42 rfl) (tw hw 41 rfl) E0 (by decide) (rm_len l Z a0 hw s1 v k ([x0, x1, x2, x3]) cP ((4 : Int32)) h0 O0 E0 Fv Fc Bx SC hP rfl) (tw hw 43 rfl) (tw hw 11 rfl) e0 (argsL := []) (rest := [(.int (64 : Int32)), (.ref s1)]) (W := 2) rfl rfl pd_11 rfl (Nat.le_of_eq rfl) rfl (by decide) (by decide) (by decide) (by decide) d7_3 rfl ?_
  intro T101 v101 L101 X101 q101
  obtain ⟨rfl, rfl, e101⟩ := q101
  have N101 := Fr.app N0 (Fr.nil _)
  refine Go.iconst (z := (1 : Int32)) (pc' := 7) C X101 d7_6 rfl rfl ?_
  refine Go.isub (pc' := 8) C X101 d7_7 rfl ?_
  rw [show ((4 : Int32) - (1 : Int32)) = (3 : Int32) from by decide]
  refine Go.callV (y := mN9) (z := mN9) (a := s1) (pc' := 11) C X101 (tw hw 50 rfl) (tw hw 51 rfl) (notFace_at C.2.1 (tw hw 53 rfl)) (tw hw 53 rfl) (tw hw 52 rfl) E0 (by decide) (rm_lj40 l Z a0 hw s1 v k x0 x1 x2 x3 cP h0 O0 E0 Fv Fc Bx SC hx0 hx1 hx2 hx3 qe0 qe1 qe2 qe3 hP) (tw hw 54 rfl) (tw hw 11 rfl) e101 (argsL := [(.int (64 : Int32)), (.int (3 : Int32))]) (rest := []) (W := 0) rfl rfl pd_17 rfl (Nat.le_of_eq rfl) rfl (by decide) (by decide) (by decide) (by decide) d7_8 rfl ?_
  intro T102 v102 L102 X102 q102
  obtain ⟨rfl, rfl, e102⟩ := q102
  have N102 := Fr.app N101 (Fr.nil _)
  exact Go.retI C X102 rfl d7_11 (by rw [e102]; exact ⟨rfl, (by simp), rfl⟩) (by decide) (by decide)
def Q_sc40 (Z : State) (s1 : Addr) (v : Addr) (k : ClassId) (x0 : Int32) (x1 : Int32) (x2 : Int32) (x3 : Int32) (cP : Int32) (fm : Value) (h0 : Heap) (rv : Option Value) (h : Heap) (L : List Loc) : Prop := ∃ o : Addr, ∃ r : Addr, ∃ u : Addr, ∃ ku : ClassId, rv = some (.ref o) ∧ Fr Z.heap.size L ∧ Keep h0 h [] ∧ h0.size ≤ o ∧ h0.size ≤ r ∧ h0.size ≤ u ∧ Exa Z h o "java/util/Optional" ∧ Fld Z h o "java/util/Optional" "value" "Ljava/lang/Object;" (.ref r) ∧ Exa Z h r "java/lang/String" ∧ Fld Z h r "java/lang/String" "value" "[B" (.ref u) ∧ Fld Z h r "java/lang/String" "coder" "B" (.int (0 : Int32)) ∧ AL Z h u ku .byte (by8 [x1, x2, x3])
theorem rm_sc40 (l : Launch) (Z : State) (a0 : Array Value) (hw : ∀ d ∈ tables_1, d.before a0 Z = true) (s1 : Addr) (v : Addr) (k : ClassId) (x0 : Int32) (x1 : Int32) (x2 : Int32) (x3 : Int32) (cP : Int32) (fm : Value) (h0 : Heap) (O0 : Ext Z.heap h0) (E0 : Exa Z h0 s1 "java/lang/String") (Fv : Fld Z h0 s1 "java/lang/String" "value" "[B" (.ref v)) (Fc : Fld Z h0 s1 "java/lang/String" "coder" "B" (.int (0 : Int32))) (Bx : AL Z h0 v k .byte (by8 [x0, x1, x2, x3])) (SC : Sta Z Z.heap "java/lang/String" "COMPACT_STRINGS" "Z" (.int cP)) (SF : Sta Z Z.heap "jdk/internal/util/Preconditions" "SIOOBE_FORMATTER" "Ljava/util/function/BiFunction;" fm) (hx0 : 0 ≤ x0.toInt ∧ x0.toInt ≤ 255) (hx1 : 0 ≤ x1.toInt ∧ x1.toInt ≤ 255) (hx2 : 0 ≤ x2.toInt ∧ x2.toInt ≤ 255) (hx3 : 0 ≤ x3.toInt ∧ x3.toInt ≤ 255) (qe0 : x0 = (64 : Int32)) (qe1 : ¬ x1 = (64 : Int32)) (qe2 : ¬ x2 = (64 : Int32)) (qe3 : ¬ x3 = (64 : Int32)) (hP : ¬ cP = (0 : Int32)) (hfm : fm.category = 1) :
    Met1 l Z mN30 prog_20_method_8_code 2 (some (.object "java/util/Optional")) ({ frames := 6, cells := 3, slots := 8, locals := 93 } : Room) #[(.ref s1)] h0 (Q_sc40 Z s1 v k x0 x1 x2 x3 cP fm h0) := by
  refine Met1.of_body (Ls := #[.val (.ref s1), .unset]) pf_6 (fun m => by first | (simp [entryFrame, mkF, argsToLocals, Value.category]; done) | rfl) ?_
  intro p e s m below meth c T0 C X0 e0
  have N0 : Fr Z.heap.size [] := Fr.nil _
  refine Go.aloadN (pc' := 1) C X0 d6_0 rfl rfl rfl ?_
  refine Go.bipush (z := (64 : Int32)) (pc' := 3) C X0 d6_1 rfl rfl ?_
  refine Go.callV (y := mN8) (z := mN8) (a := s1) (pc' := 6) C X0 (tw hw 34 rfl) (tw hw 35 rfl) (notFace_at C.2.1 (tw hw 37 rfl)) (tw hw 37 rfl) (tw hw 36 rfl) E0 (by decide) (rm_lk40 l Z a0 hw s1 v k x0 x1 x2 x3 cP h0 O0 E0 Fv Fc Bx SC hx0 hx1 hx2 hx3 qe0 qe1 qe2 qe3 hP) (tw hw 38 rfl) (tw hw 11 rfl) e0 (argsL := [(.int (64 : Int32))]) (rest := []) (W := 0) rfl rfl pd_22 rfl (Nat.le_of_eq rfl) rfl (by decide) (by decide) (by decide) (by decide) d6_3 rfl ?_
  intro T101 v101 L101 X101 q101
  obtain ⟨rfl, rfl, e101⟩ := q101
  have N101 := Fr.app N0 (Fr.nil _)
  refine Go.istoreN (Ls' := #[.val (.ref s1), .val (.int (0 : Int32))]) (pc' := 7) C X101 d6_6 rfl rfl ?_
  refine Go.iloadN (pc' := 8) C X101 d6_7 rfl rfl ?_
  refine Go.ifYes (pc' := 17) C X101 d6_8 ((if0 _ _).trans (flt (x := (0 : Int32)) (y := (0 : Int32)) (by decide)).2.1) (by decide) (by decide) ?_
  refine Go.aloadN (pc' := 18) C X101 d6_17 rfl rfl rfl ?_
  refine Go.iloadN (pc' := 19) C X101 d6_18 rfl rfl ?_
  refine Go.iconst (z := (1 : Int32)) (pc' := 20) C X101 d6_19 rfl rfl ?_
  refine Go.iadd (pc' := 21) C X101 d6_20 rfl ?_
  rw [show ((0 : Int32) + (1 : Int32)) = (1 : Int32) from by decide]
  refine Go.callV (y := mN11) (z := mN11) (a := s1) (pc' := 24) C X101 (tw hw 96 rfl) (tw hw 97 rfl) (notFace_at C.2.1 (tw hw 99 rfl)) (tw hw 99 rfl) (tw hw 98 rfl) E0 (by decide) (rm_su114 l Z a0 hw s1 v k x0 x1 x2 x3 cP fm h0 O0 E0 Fv Fc Bx SC SF hP hfm) (tw hw 100 rfl) (tw hw 11 rfl) e101 (argsL := [(.int (1 : Int32))]) (rest := []) (W := 0) rfl rfl pd_24 rfl (Nat.le_of_eq rfl) rfl (by decide) (by decide) (by decide) (by decide) d6_21 rfl ?_
  intro T103 v103 L103 X103 q103
  obtain ⟨r_103, u_103, ku_103, rfl, N103q, K103, B103_0, B103_1, P103_0, P103_1, P103_2, P103_3⟩ := q103
  have N103 := Fr.app N101 N103q
  have n_r_103 : Z.heap.size ≤ r_103 := Nat.le_trans O0.1 B103_0
  have z_r_103 : h0.size ≤ r_103 := Nat.le_trans (Nat.le_refl _) B103_0
  have n_u_103 : Z.heap.size ≤ u_103 := Nat.le_trans O0.1 B103_1
  have z_u_103 : h0.size ≤ u_103 := Nat.le_trans (Nat.le_refl _) B103_1
  have O105 : Ext Z.heap T103.heap := (Ext.keep O0 K103 all0)
  refine Go.callS (y := mN28) (pc' := 27) C X103 (tw hw 118 rfl) (tw hw 119 rfl) (by decide) (rm_oof l Z a0 hw r_103 T103.heap O105 ) (tw hw 120 rfl) (tw hw 73 rfl) rfl (argsL := [(.ref r_103)]) (rest := []) (W := 0) rfl rfl pd_25 rfl (Nat.le_of_eq rfl) rfl (by decide) (by decide) (by decide) (by decide) d6_24 rfl ?_
  intro T104 v104 L104 X104 q104
  obtain ⟨o_104, rfl, N104q, K104, B104_0, P104_0, P104_1⟩ := q104
  have N104 := Fr.app N103 N104q
  have n_o_104 : Z.heap.size ≤ o_104 := Nat.le_trans O105.1 B104_0
  have z_o_104 : h0.size ≤ o_104 := Nat.le_trans (Nat.le_trans (Nat.le_refl _) K103.1) B104_0
  have K106 : Keep h0 T104.heap [] := (((Keep.refl h0 []).trans K103 all0).trans K104 all0)
  have c107 : Exa Z T104.heap r_103 "java/lang/String" := (Exa.keep P103_0 K104)
  have c108 : Fld Z T104.heap r_103 "java/lang/String" "value" "[B" (.ref u_103) := (Fld.keep P103_1 K104 nin0)
  have c109 : Fld Z T104.heap r_103 "java/lang/String" "coder" "B" (.int (0 : Int32)) := (Fld.keep P103_2 K104 nin0)
  have c110 : AL Z T104.heap u_103 ku_103 .byte (by8 [x1, x2, x3]) := (AL.keep P103_3 K104 nin0)
  exact Go.retA C X104 rfl d6_27 rfl rfl rfl ⟨o_104, r_103, u_103, ku_103, rfl, N104, K106, z_o_104, z_r_103, z_u_103, P104_0, P104_1, c107, c108, c109, c110⟩ (by decide) (by decide)
def Q_li41 (Z : State) (v : Addr) (k : ClassId) (x0 : Int32) (x1 : Int32) (x2 : Int32) (x3 : Int32) (h0 : Heap) (rv : Option Value) (h : Heap) (L : List Loc) : Prop := rv = some (.int (1 : Int32)) ∧ L = [] ∧ h = h0
theorem rm_li41 (l : Launch) (Z : State) (a0 : Array Value) (hw : ∀ d ∈ tables_1, d.before a0 Z = true) (v : Addr) (k : ClassId) (x0 : Int32) (x1 : Int32) (x2 : Int32) (x3 : Int32) (h0 : Heap) (O0 : Ext Z.heap h0) (Bx : AL Z h0 v k .byte (by8 [x0, x1, x2, x3])) (hx0 : 0 ≤ x0.toInt ∧ x0.toInt ≤ 255) (hx1 : 0 ≤ x1.toInt ∧ x1.toInt ≤ 255) (hx2 : 0 ≤ x2.toInt ∧ x2.toInt ≤ 255) (hx3 : 0 ≤ x3.toInt ∧ x3.toInt ≤ 255) (qe1 : x1 = (64 : Int32)) (qe2 : ¬ x2 = (64 : Int32)) (qe3 : ¬ x3 = (64 : Int32)) :
    Met1 l Z mN15 jdk_43_method_27_code 4 (some .int) ({ frames := 1, cells := 0, slots := 0, locals := 13 } : Room) #[(.ref v), (.int (64 : Int32)), (.int (3 : Int32))] h0 (Q_li41 Z v k x0 x1 x2 x3 h0) := by
  refine Met1.of_body (Ls := #[.val (.ref v), .val (.int (64 : Int32)), .val (.int (3 : Int32)), .unset]) pf_12 (fun m => by first | (simp [entryFrame, mkF, argsToLocals, Value.category]; done) | rfl) ?_
  intro p e s m below meth c T0 C X0 e0
  have N0 : Fr Z.heap.size [] := Fr.nil _
  refine Go.iloadN (pc' := 1) C X0 d12_0 rfl rfl ?_
  refine Go.callS (y := mN13) (pc' := 4) C X0 (tw hw 64 rfl) (tw hw 65 rfl) (by decide) (rm_ce l Z a0 hw  h0 O0 ) (tw hw 66 rfl) (tw hw 62 rfl) e0 (argsL := [(.int (64 : Int32))]) (rest := []) (W := 0) rfl rfl pd_20 rfl (Nat.le_of_eq rfl) rfl (by decide) (by decide) (by decide) (by decide) d12_1 rfl ?_
  intro T101 v101 L101 X101 q101
  obtain ⟨rfl, rfl, e101⟩ := q101
  have N101 := Fr.app N0 (Fr.nil _)
  refine Go.ifYes (pc' := 9) C X101 d12_4 ((if0 _ _).trans (feq (x := (1 : Int32)) (y := (0 : Int32)) (by decide)).2) (by decide) (by decide) ?_
  refine Go.iloadN (pc' := 10) C X101 d12_9 rfl rfl ?_
  refine Go.aloadN (pc' := 11) C X101 d12_10 rfl rfl rfl ?_
  refine Go.alen (z := (4 : Int32)) (pc' := 12) C X101 e101 Bx (by rw [by8_len]; rfl) d12_11 rfl ?_
  refine Go.iconst (z := (1 : Int32)) (pc' := 13) C X101 d12_12 rfl rfl ?_
  refine Go.isub (pc' := 14) C X101 d12_13 rfl ?_
  rw [show ((4 : Int32) - (1 : Int32)) = (3 : Int32) from by decide]
  refine Go.callS (y := mN0) (pc' := 17) C X101 (tw hw 67 rfl) (tw hw 68 rfl) (by decide) (rm_mn l Z a0 hw ((3 : Int32)) h0 O0 ) (tw hw 70 rfl) (tw hw 69 rfl) e101 (argsL := [(.int (3 : Int32)), (.int (3 : Int32))]) (rest := []) (W := 0) rfl rfl pd_17 rfl (Nat.le_of_eq rfl) rfl (by decide) (by decide) (by decide) (by decide) d12_14 rfl ?_
  intro T103 v103 L103 X103 q103
  obtain ⟨rfl, rfl, e103⟩ := q103
  have N103 := Fr.app N101 (Fr.nil _)
  refine Go.istoreN (Ls' := #[.val (.ref v), .val (.int (64 : Int32)), .val (.int (3 : Int32)), .val (.int (3 : Int32))]) (pc' := 18) C X103 d12_17 rfl rfl ?_
  refine Go.iloadN (pc' := 19) C X103 d12_18 rfl rfl ?_
  refine Go.ifNo (pc' := 22) C X103 d12_19 ((if0 _ _).trans (flt (x := (3 : Int32)) (y := (0 : Int32)) (by decide)).1) rfl ?_
  refine Go.aloadN (pc' := 23) C X103 d12_22 rfl rfl rfl ?_
  refine Go.iloadN (pc' := 24) C X103 d12_23 rfl rfl ?_
  refine Go.ldB (i := 3) (v := (.int x3.toInt8.toInt32)) (pc' := 25) C X103 e103 Bx (by decide) (by decide) (by8_get rfl) d12_24 rfl ?_
  refine Go.iloadN (pc' := 26) C X103 d12_25 rfl rfl ?_
  refine Go.i2b (pc' := 27) C X103 d12_26 rfl ?_
  refine Go.icmpYes (pc' := 32) C X103 d12_27 (feq (x := x3.toInt8.toInt32) (y := ((64 : Int32).toInt8.toInt32)) (fun q => qe3 ((b64 hx3).mp q))).2 (by decide) (by decide) ?_
  refine Go.iinc (Ls' := #[.val (.ref v), .val (.int (64 : Int32)), .val (.int (3 : Int32)), .val (.int ((3 : Int32) + (-1 : Int32)))]) (z := (-1 : Int32)) (pc' := 35) C X103 d12_32 rfl rfl rfl rfl ?_
  rw [show ((3 : Int32) + (-1 : Int32)) = (2 : Int32) from by decide]
  refine Go.goto (pc' := 18) C X103 d12_35 (by decide) (by decide) ?_
  refine Go.iloadN (pc' := 19) C X103 d12_18 rfl rfl ?_
  refine Go.ifNo (pc' := 22) C X103 d12_19 ((if0 _ _).trans (flt (x := (2 : Int32)) (y := (0 : Int32)) (by decide)).1) rfl ?_
  refine Go.aloadN (pc' := 23) C X103 d12_22 rfl rfl rfl ?_
  refine Go.iloadN (pc' := 24) C X103 d12_23 rfl rfl ?_
  refine Go.ldB (i := 2) (v := (.int x2.toInt8.toInt32)) (pc' := 25) C X103 e103 Bx (by decide) (by decide) (by8_get rfl) d12_24 rfl ?_
  refine Go.iloadN (pc' := 26) C X103 d12_25 rfl rfl ?_
  refine Go.i2b (pc' := 27) C X103 d12_26 rfl ?_
  refine Go.icmpYes (pc' := 32) C X103 d12_27 (feq (x := x2.toInt8.toInt32) (y := ((64 : Int32).toInt8.toInt32)) (fun q => qe2 ((b64 hx2).mp q))).2 (by decide) (by decide) ?_
  refine Go.iinc (Ls' := #[.val (.ref v), .val (.int (64 : Int32)), .val (.int (3 : Int32)), .val (.int ((2 : Int32) + (-1 : Int32)))]) (z := (-1 : Int32)) (pc' := 35) C X103 d12_32 rfl rfl rfl rfl ?_
  rw [show ((2 : Int32) + (-1 : Int32)) = (1 : Int32) from by decide]
  refine Go.goto (pc' := 18) C X103 d12_35 (by decide) (by decide) ?_
  refine Go.iloadN (pc' := 19) C X103 d12_18 rfl rfl ?_
  refine Go.ifNo (pc' := 22) C X103 d12_19 ((if0 _ _).trans (flt (x := (1 : Int32)) (y := (0 : Int32)) (by decide)).1) rfl ?_
  refine Go.aloadN (pc' := 23) C X103 d12_22 rfl rfl rfl ?_
  refine Go.iloadN (pc' := 24) C X103 d12_23 rfl rfl ?_
  refine Go.ldB (i := 1) (v := (.int x1.toInt8.toInt32)) (pc' := 25) C X103 e103 Bx (by decide) (by decide) (by8_get rfl) d12_24 rfl ?_
  refine Go.iloadN (pc' := 26) C X103 d12_25 rfl rfl ?_
  refine Go.i2b (pc' := 27) C X103 d12_26 rfl ?_
  refine Go.icmpNo (pc' := 30) C X103 d12_27 (teq (x := x1.toInt8.toInt32) (y := ((64 : Int32).toInt8.toInt32)) ((b64 hx1).mpr qe1)).2 rfl ?_
  refine Go.iloadN (pc' := 31) C X103 d12_30 rfl rfl ?_
  exact Go.retI C X103 rfl d12_31 (by rw [e103]; exact ⟨rfl, (by simp), rfl⟩) (by decide) (by decide)
def Q_lj41 (Z : State) (s1 : Addr) (v : Addr) (k : ClassId) (x0 : Int32) (x1 : Int32) (x2 : Int32) (x3 : Int32) (cP : Int32) (h0 : Heap) (rv : Option Value) (h : Heap) (L : List Loc) : Prop := rv = some (.int (1 : Int32)) ∧ L = [] ∧ h = h0
theorem rm_lj41 (l : Launch) (Z : State) (a0 : Array Value) (hw : ∀ d ∈ tables_1, d.before a0 Z = true) (s1 : Addr) (v : Addr) (k : ClassId) (x0 : Int32) (x1 : Int32) (x2 : Int32) (x3 : Int32) (cP : Int32) (h0 : Heap) (O0 : Ext Z.heap h0) (E0 : Exa Z h0 s1 "java/lang/String") (Fv : Fld Z h0 s1 "java/lang/String" "value" "[B" (.ref v)) (Fc : Fld Z h0 s1 "java/lang/String" "coder" "B" (.int (0 : Int32))) (Bx : AL Z h0 v k .byte (by8 [x0, x1, x2, x3])) (SC : Sta Z Z.heap "java/lang/String" "COMPACT_STRINGS" "Z" (.int cP)) (hx0 : 0 ≤ x0.toInt ∧ x0.toInt ≤ 255) (hx1 : 0 ≤ x1.toInt ∧ x1.toInt ≤ 255) (hx2 : 0 ≤ x2.toInt ∧ x2.toInt ≤ 255) (hx3 : 0 ≤ x3.toInt ∧ x3.toInt ≤ 255) (qe1 : x1 = (64 : Int32)) (qe2 : ¬ x2 = (64 : Int32)) (qe3 : ¬ x3 = (64 : Int32)) (hP : ¬ cP = (0 : Int32)) :
    Met1 l Z mN9 jdk_42_method_83_code 3 (some .int) ({ frames := 2, cells := 0, slots := 0, locals := 28 } : Room) #[(.ref s1), (.int (64 : Int32)), (.int (3 : Int32))] h0 (Q_lj41 Z s1 v k x0 x1 x2 x3 cP h0) := by
  refine Met1.of_body (Ls := #[.val (.ref s1), .val (.int (64 : Int32)), .val (.int (3 : Int32))]) pf_10 (fun m => by first | (simp [entryFrame, mkF, argsToLocals, Value.category]; done) | rfl) ?_
  intro p e s m below meth c T0 C X0 e0
  have N0 : Fr Z.heap.size [] := Fr.nil _
  refine Go.aloadN (pc' := 1) C X0 d10_0 rfl rfl rfl ?_
  refine Go.callV (y := mN7) (z := mN7) (a := s1) (pc' := 4) C X0 (tw hw 55 rfl) (tw hw 56 rfl) (notFace_at C.2.1 (tw hw 58 rfl)) (tw hw 58 rfl) (tw hw 57 rfl) E0 (by decide) (rm_isL l Z a0 hw s1 cP h0 O0 Fc SC hP) (tw hw 59 rfl) (tw hw 11 rfl) e0 (argsL := []) (rest := []) (W := 0) rfl rfl pd_13 rfl (Nat.le_of_eq rfl) rfl (by decide) (by decide) (by decide) (by decide) d10_1 rfl ?_
  intro T101 v101 L101 X101 q101
  obtain ⟨rfl, rfl, e101⟩ := q101
  have N101 := Fr.app N0 (Fr.nil _)
  refine Go.ifNo (pc' := 7) C X101 d10_4 ((if0 _ _).trans (feq (x := (1 : Int32)) (y := (0 : Int32)) (by decide)).1) rfl ?_
  refine Go.aloadN (pc' := 8) C X101 d10_7 rfl rfl rfl ?_
  refine Go.getF (pc' := 11) (host := "") C X101 (Or.inl (tw hw 28 rfl)) Via.refl e101 Fv d10_8 rfl ?_
  intro T103 X103 e103
  refine Go.iloadN (pc' := 12) C X103 d10_11 rfl rfl ?_
  refine Go.iloadN (pc' := 13) C X103 d10_12 rfl rfl ?_
  refine Go.callS (y := mN15) (pc' := 16) C X103 (tw hw 60 rfl) (tw hw 61 rfl) (by decide) (rm_li41 l Z a0 hw v k x0 x1 x2 x3 h0 O0 Bx hx0 hx1 hx2 hx3 qe1 qe2 qe3) (tw hw 63 rfl) (tw hw 62 rfl) e103 (argsL := [(.ref v), (.int (64 : Int32)), (.int (3 : Int32))]) (rest := []) (W := 0) rfl rfl pd_21 rfl (Nat.le_of_eq rfl) rfl (by decide) (by decide) (by decide) (by decide) d10_13 rfl ?_
  intro T104 v104 L104 X104 q104
  obtain ⟨rfl, rfl, e104⟩ := q104
  have N104 := Fr.app N101 (Fr.nil _)
  refine Go.goto (pc' := 28) C X104 d10_16 (by decide) (by decide) ?_
  exact Go.retI C X104 rfl d10_28 (by rw [e104]; exact ⟨rfl, (by simp), rfl⟩) (by decide) (by decide)
def Q_lk41 (Z : State) (s1 : Addr) (v : Addr) (k : ClassId) (x0 : Int32) (x1 : Int32) (x2 : Int32) (x3 : Int32) (cP : Int32) (h0 : Heap) (rv : Option Value) (h : Heap) (L : List Loc) : Prop := rv = some (.int (1 : Int32)) ∧ L = [] ∧ h = h0
theorem rm_lk41 (l : Launch) (Z : State) (a0 : Array Value) (hw : ∀ d ∈ tables_1, d.before a0 Z = true) (s1 : Addr) (v : Addr) (k : ClassId) (x0 : Int32) (x1 : Int32) (x2 : Int32) (x3 : Int32) (cP : Int32) (h0 : Heap) (O0 : Ext Z.heap h0) (E0 : Exa Z h0 s1 "java/lang/String") (Fv : Fld Z h0 s1 "java/lang/String" "value" "[B" (.ref v)) (Fc : Fld Z h0 s1 "java/lang/String" "coder" "B" (.int (0 : Int32))) (Bx : AL Z h0 v k .byte (by8 [x0, x1, x2, x3])) (SC : Sta Z Z.heap "java/lang/String" "COMPACT_STRINGS" "Z" (.int cP)) (hx0 : 0 ≤ x0.toInt ∧ x0.toInt ≤ 255) (hx1 : 0 ≤ x1.toInt ∧ x1.toInt ≤ 255) (hx2 : 0 ≤ x2.toInt ∧ x2.toInt ≤ 255) (hx3 : 0 ≤ x3.toInt ∧ x3.toInt ≤ 255) (qe1 : x1 = (64 : Int32)) (qe2 : ¬ x2 = (64 : Int32)) (qe3 : ¬ x3 = (64 : Int32)) (hP : ¬ cP = (0 : Int32)) :
    Met1 l Z mN8 jdk_42_method_82_code 2 (some .int) ({ frames := 3, cells := 0, slots := 0, locals := 42 } : Room) #[(.ref s1), (.int (64 : Int32))] h0 (Q_lk41 Z s1 v k x0 x1 x2 x3 cP h0) := by
  refine Met1.of_body (Ls := #[.val (.ref s1), .val (.int (64 : Int32))]) pf_7 (fun m => by first | (simp [entryFrame, mkF, argsToLocals, Value.category]; done) | rfl) ?_
  intro p e s m below meth c T0 C X0 e0
  have N0 : Fr Z.heap.size [] := Fr.nil _
  refine Go.aloadN (pc' := 1) C X0 d7_0 rfl rfl rfl ?_
  refine Go.iloadN (pc' := 2) C X0 d7_1 rfl rfl ?_
  refine Go.aloadN (pc' := 3) C X0 d7_2 rfl rfl rfl ?_
  refine Go.callV (y := mN10) (z := mN10) (a := s1) (pc' := 6) C X0 (tw hw 39 rfl) (tw hw 40 rfl) (notFace_at C.2.1 (tw hw 42 rfl)) (tw hw 42 rfl) (tw hw 41 rfl) E0 (by decide) (rm_len l Z a0 hw s1 v k ([x0, x1, x2, x3]) cP ((4 : Int32)) h0 O0 E0 Fv Fc Bx SC hP rfl) (tw hw 43 rfl) (tw hw 11 rfl) e0 (argsL := []) (rest := [(.int (64 : Int32)), (.ref s1)]) (W := 2) rfl rfl pd_11 rfl (Nat.le_of_eq rfl) rfl (by decide) (by decide) (by decide) (by decide) d7_3 rfl ?_
  intro T101 v101 L101 X101 q101
  obtain ⟨rfl, rfl, e101⟩ := q101
  have N101 := Fr.app N0 (Fr.nil _)
  refine Go.iconst (z := (1 : Int32)) (pc' := 7) C X101 d7_6 rfl rfl ?_
  refine Go.isub (pc' := 8) C X101 d7_7 rfl ?_
  rw [show ((4 : Int32) - (1 : Int32)) = (3 : Int32) from by decide]
  refine Go.callV (y := mN9) (z := mN9) (a := s1) (pc' := 11) C X101 (tw hw 50 rfl) (tw hw 51 rfl) (notFace_at C.2.1 (tw hw 53 rfl)) (tw hw 53 rfl) (tw hw 52 rfl) E0 (by decide) (rm_lj41 l Z a0 hw s1 v k x0 x1 x2 x3 cP h0 O0 E0 Fv Fc Bx SC hx0 hx1 hx2 hx3 qe1 qe2 qe3 hP) (tw hw 54 rfl) (tw hw 11 rfl) e101 (argsL := [(.int (64 : Int32)), (.int (3 : Int32))]) (rest := []) (W := 0) rfl rfl pd_17 rfl (Nat.le_of_eq rfl) rfl (by decide) (by decide) (by decide) (by decide) d7_8 rfl ?_
  intro T102 v102 L102 X102 q102
  obtain ⟨rfl, rfl, e102⟩ := q102
  have N102 := Fr.app N101 (Fr.nil _)
  exact Go.retI C X102 rfl d7_11 (by rw [e102]; exact ⟨rfl, (by simp), rfl⟩) (by decide) (by decide)
def Q_sc41 (Z : State) (s1 : Addr) (v : Addr) (k : ClassId) (x0 : Int32) (x1 : Int32) (x2 : Int32) (x3 : Int32) (cP : Int32) (fm : Value) (h0 : Heap) (rv : Option Value) (h : Heap) (L : List Loc) : Prop := ∃ o : Addr, ∃ r : Addr, ∃ u : Addr, ∃ ku : ClassId, rv = some (.ref o) ∧ Fr Z.heap.size L ∧ Keep h0 h [] ∧ h0.size ≤ o ∧ h0.size ≤ r ∧ h0.size ≤ u ∧ Exa Z h o "java/util/Optional" ∧ Fld Z h o "java/util/Optional" "value" "Ljava/lang/Object;" (.ref r) ∧ Exa Z h r "java/lang/String" ∧ Fld Z h r "java/lang/String" "value" "[B" (.ref u) ∧ Fld Z h r "java/lang/String" "coder" "B" (.int (0 : Int32)) ∧ AL Z h u ku .byte (by8 [x2, x3])
theorem rm_sc41 (l : Launch) (Z : State) (a0 : Array Value) (hw : ∀ d ∈ tables_1, d.before a0 Z = true) (s1 : Addr) (v : Addr) (k : ClassId) (x0 : Int32) (x1 : Int32) (x2 : Int32) (x3 : Int32) (cP : Int32) (fm : Value) (h0 : Heap) (O0 : Ext Z.heap h0) (E0 : Exa Z h0 s1 "java/lang/String") (Fv : Fld Z h0 s1 "java/lang/String" "value" "[B" (.ref v)) (Fc : Fld Z h0 s1 "java/lang/String" "coder" "B" (.int (0 : Int32))) (Bx : AL Z h0 v k .byte (by8 [x0, x1, x2, x3])) (SC : Sta Z Z.heap "java/lang/String" "COMPACT_STRINGS" "Z" (.int cP)) (SF : Sta Z Z.heap "jdk/internal/util/Preconditions" "SIOOBE_FORMATTER" "Ljava/util/function/BiFunction;" fm) (hx0 : 0 ≤ x0.toInt ∧ x0.toInt ≤ 255) (hx1 : 0 ≤ x1.toInt ∧ x1.toInt ≤ 255) (hx2 : 0 ≤ x2.toInt ∧ x2.toInt ≤ 255) (hx3 : 0 ≤ x3.toInt ∧ x3.toInt ≤ 255) (qe1 : x1 = (64 : Int32)) (qe2 : ¬ x2 = (64 : Int32)) (qe3 : ¬ x3 = (64 : Int32)) (hP : ¬ cP = (0 : Int32)) (hfm : fm.category = 1) :
    Met1 l Z mN30 prog_20_method_8_code 2 (some (.object "java/util/Optional")) ({ frames := 6, cells := 3, slots := 7, locals := 93 } : Room) #[(.ref s1)] h0 (Q_sc41 Z s1 v k x0 x1 x2 x3 cP fm h0) := by
  refine Met1.of_body (Ls := #[.val (.ref s1), .unset]) pf_6 (fun m => by first | (simp [entryFrame, mkF, argsToLocals, Value.category]; done) | rfl) ?_
  intro p e s m below meth c T0 C X0 e0
  have N0 : Fr Z.heap.size [] := Fr.nil _
  refine Go.aloadN (pc' := 1) C X0 d6_0 rfl rfl rfl ?_
  refine Go.bipush (z := (64 : Int32)) (pc' := 3) C X0 d6_1 rfl rfl ?_
  refine Go.callV (y := mN8) (z := mN8) (a := s1) (pc' := 6) C X0 (tw hw 34 rfl) (tw hw 35 rfl) (notFace_at C.2.1 (tw hw 37 rfl)) (tw hw 37 rfl) (tw hw 36 rfl) E0 (by decide) (rm_lk41 l Z a0 hw s1 v k x0 x1 x2 x3 cP h0 O0 E0 Fv Fc Bx SC hx0 hx1 hx2 hx3 qe1 qe2 qe3 hP) (tw hw 38 rfl) (tw hw 11 rfl) e0 (argsL := [(.int (64 : Int32))]) (rest := []) (W := 0) rfl rfl pd_22 rfl (Nat.le_of_eq rfl) rfl (by decide) (by decide) (by decide) (by decide) d6_3 rfl ?_
  intro T101 v101 L101 X101 q101
  obtain ⟨rfl, rfl, e101⟩ := q101
  have N101 := Fr.app N0 (Fr.nil _)
  refine Go.istoreN (Ls' := #[.val (.ref s1), .val (.int (1 : Int32))]) (pc' := 7) C X101 d6_6 rfl rfl ?_
  refine Go.iloadN (pc' := 8) C X101 d6_7 rfl rfl ?_
  refine Go.ifYes (pc' := 17) C X101 d6_8 ((if0 _ _).trans (flt (x := (1 : Int32)) (y := (0 : Int32)) (by decide)).2.1) (by decide) (by decide) ?_
  refine Go.aloadN (pc' := 18) C X101 d6_17 rfl rfl rfl ?_
  refine Go.iloadN (pc' := 19) C X101 d6_18 rfl rfl ?_
  refine Go.iconst (z := (1 : Int32)) (pc' := 20) C X101 d6_19 rfl rfl ?_
  refine Go.iadd (pc' := 21) C X101 d6_20 rfl ?_
  rw [show ((1 : Int32) + (1 : Int32)) = (2 : Int32) from by decide]
  refine Go.callV (y := mN11) (z := mN11) (a := s1) (pc' := 24) C X101 (tw hw 96 rfl) (tw hw 97 rfl) (notFace_at C.2.1 (tw hw 99 rfl)) (tw hw 99 rfl) (tw hw 98 rfl) E0 (by decide) (rm_su124 l Z a0 hw s1 v k x0 x1 x2 x3 cP fm h0 O0 E0 Fv Fc Bx SC SF hP hfm) (tw hw 100 rfl) (tw hw 11 rfl) e101 (argsL := [(.int (2 : Int32))]) (rest := []) (W := 0) rfl rfl pd_24 rfl (Nat.le_of_eq rfl) rfl (by decide) (by decide) (by decide) (by decide) d6_21 rfl ?_
  intro T103 v103 L103 X103 q103
  obtain ⟨r_103, u_103, ku_103, rfl, N103q, K103, B103_0, B103_1, P103_0, P103_1, P103_2, P103_3⟩ := q103
  have N103 := Fr.app N101 N103q
  have n_r_103 : Z.heap.size ≤ r_103 := Nat.le_trans O0.1 B103_0
  have z_r_103 : h0.size ≤ r_103 := Nat.le_trans (Nat.le_refl _) B103_0
  have n_u_103 : Z.heap.size ≤ u_103 := Nat.le_trans O0.1 B103_1
  have z_u_103 : h0.size ≤ u_103 := Nat.le_trans (Nat.le_refl _) B103_1
  have O105 : Ext Z.heap T103.heap := (Ext.keep O0 K103 all0)
  refine Go.callS (y := mN28) (pc' := 27) C X103 (tw hw 118 rfl) (tw hw 119 rfl) (by decide) (rm_oof l Z a0 hw r_103 T103.heap O105 ) (tw hw 120 rfl) (tw hw 73 rfl) rfl (argsL := [(.ref r_103)]) (rest := []) (W := 0) rfl rfl pd_25 rfl (Nat.le_of_eq rfl) rfl (by decide) (by decide) (by decide) (by decide) d6_24 rfl ?_
  intro T104 v104 L104 X104 q104
  obtain ⟨o_104, rfl, N104q, K104, B104_0, P104_0, P104_1⟩ := q104
  have N104 := Fr.app N103 N104q
  have n_o_104 : Z.heap.size ≤ o_104 := Nat.le_trans O105.1 B104_0
  have z_o_104 : h0.size ≤ o_104 := Nat.le_trans (Nat.le_trans (Nat.le_refl _) K103.1) B104_0
  have K106 : Keep h0 T104.heap [] := (((Keep.refl h0 []).trans K103 all0).trans K104 all0)
  have c107 : Exa Z T104.heap r_103 "java/lang/String" := (Exa.keep P103_0 K104)
  have c108 : Fld Z T104.heap r_103 "java/lang/String" "value" "[B" (.ref u_103) := (Fld.keep P103_1 K104 nin0)
  have c109 : Fld Z T104.heap r_103 "java/lang/String" "coder" "B" (.int (0 : Int32)) := (Fld.keep P103_2 K104 nin0)
  have c110 : AL Z T104.heap u_103 ku_103 .byte (by8 [x2, x3]) := (AL.keep P103_3 K104 nin0)
  exact Go.retA C X104 rfl d6_27 rfl rfl rfl ⟨o_104, r_103, u_103, ku_103, rfl, N104, K106, z_o_104, z_r_103, z_u_103, P104_0, P104_1, c107, c108, c109, c110⟩ (by decide) (by decide)
def Q_li42 (Z : State) (v : Addr) (k : ClassId) (x0 : Int32) (x1 : Int32) (x2 : Int32) (x3 : Int32) (h0 : Heap) (rv : Option Value) (h : Heap) (L : List Loc) : Prop := rv = some (.int (2 : Int32)) ∧ L = [] ∧ h = h0
theorem rm_li42 (l : Launch) (Z : State) (a0 : Array Value) (hw : ∀ d ∈ tables_1, d.before a0 Z = true) (v : Addr) (k : ClassId) (x0 : Int32) (x1 : Int32) (x2 : Int32) (x3 : Int32) (h0 : Heap) (O0 : Ext Z.heap h0) (Bx : AL Z h0 v k .byte (by8 [x0, x1, x2, x3])) (hx0 : 0 ≤ x0.toInt ∧ x0.toInt ≤ 255) (hx1 : 0 ≤ x1.toInt ∧ x1.toInt ≤ 255) (hx2 : 0 ≤ x2.toInt ∧ x2.toInt ≤ 255) (hx3 : 0 ≤ x3.toInt ∧ x3.toInt ≤ 255) (qe2 : x2 = (64 : Int32)) (qe3 : ¬ x3 = (64 : Int32)) :
    Met1 l Z mN15 jdk_43_method_27_code 4 (some .int) ({ frames := 1, cells := 0, slots := 0, locals := 13 } : Room) #[(.ref v), (.int (64 : Int32)), (.int (3 : Int32))] h0 (Q_li42 Z v k x0 x1 x2 x3 h0) := by
  refine Met1.of_body (Ls := #[.val (.ref v), .val (.int (64 : Int32)), .val (.int (3 : Int32)), .unset]) pf_12 (fun m => by first | (simp [entryFrame, mkF, argsToLocals, Value.category]; done) | rfl) ?_
  intro p e s m below meth c T0 C X0 e0
  have N0 : Fr Z.heap.size [] := Fr.nil _
  refine Go.iloadN (pc' := 1) C X0 d12_0 rfl rfl ?_
  refine Go.callS (y := mN13) (pc' := 4) C X0 (tw hw 64 rfl) (tw hw 65 rfl) (by decide) (rm_ce l Z a0 hw  h0 O0 ) (tw hw 66 rfl) (tw hw 62 rfl) e0 (argsL := [(.int (64 : Int32))]) (rest := []) (W := 0) rfl rfl pd_20 rfl (Nat.le_of_eq rfl) rfl (by decide) (by decide) (by decide) (by decide) d12_1 rfl ?_
  intro T101 v101 L101 X101 q101
  obtain ⟨rfl, rfl, e101⟩ := q101
  have N101 := Fr.app N0 (Fr.nil _)
  refine Go.ifYes (pc' := 9) C X101 d12_4 ((if0 _ _).trans (feq (x := (1 : Int32)) (y := (0 : Int32)) (by decide)).2) (by decide) (by decide) ?_
  refine Go.iloadN (pc' := 10) C X101 d12_9 rfl rfl ?_
  refine Go.aloadN (pc' := 11) C X101 d12_10 rfl rfl rfl ?_
  refine Go.alen (z := (4 : Int32)) (pc' := 12) C X101 e101 Bx (by rw [by8_len]; rfl) d12_11 rfl ?_
  refine Go.iconst (z := (1 : Int32)) (pc' := 13) C X101 d12_12 rfl rfl ?_
  refine Go.isub (pc' := 14) C X101 d12_13 rfl ?_
  rw [show ((4 : Int32) - (1 : Int32)) = (3 : Int32) from by decide]
  refine Go.callS (y := mN0) (pc' := 17) C X101 (tw hw 67 rfl) (tw hw 68 rfl) (by decide) (rm_mn l Z a0 hw ((3 : Int32)) h0 O0 ) (tw hw 70 rfl) (tw hw 69 rfl) e101 (argsL := [(.int (3 : Int32)), (.int (3 : Int32))]) (rest := []) (W := 0) rfl rfl pd_17 rfl (Nat.le_of_eq rfl) rfl (by decide) (by decide) (by decide) (by decide) d12_14 rfl ?_
  intro T103 v103 L103 X103 q103
  obtain ⟨rfl, rfl, e103⟩ := q103
  have N103 := Fr.app N101 (Fr.nil _)
  refine Go.istoreN (Ls' := #[.val (.ref v), .val (.int (64 : Int32)), .val (.int (3 : Int32)), .val (.int (3 : Int32))]) (pc' := 18) C X103 d12_17 rfl rfl ?_
  refine Go.iloadN (pc' := 19) C X103 d12_18 rfl rfl ?_
  refine Go.ifNo (pc' := 22) C X103 d12_19 ((if0 _ _).trans (flt (x := (3 : Int32)) (y := (0 : Int32)) (by decide)).1) rfl ?_
  refine Go.aloadN (pc' := 23) C X103 d12_22 rfl rfl rfl ?_
  refine Go.iloadN (pc' := 24) C X103 d12_23 rfl rfl ?_
  refine Go.ldB (i := 3) (v := (.int x3.toInt8.toInt32)) (pc' := 25) C X103 e103 Bx (by decide) (by decide) (by8_get rfl) d12_24 rfl ?_
  refine Go.iloadN (pc' := 26) C X103 d12_25 rfl rfl ?_
  refine Go.i2b (pc' := 27) C X103 d12_26 rfl ?_
  refine Go.icmpYes (pc' := 32) C X103 d12_27 (feq (x := x3.toInt8.toInt32) (y := ((64 : Int32).toInt8.toInt32)) (fun q => qe3 ((b64 hx3).mp q))).2 (by decide) (by decide) ?_
  refine Go.iinc (Ls' := #[.val (.ref v), .val (.int (64 : Int32)), .val (.int (3 : Int32)), .val (.int ((3 : Int32) + (-1 : Int32)))]) (z := (-1 : Int32)) (pc' := 35) C X103 d12_32 rfl rfl rfl rfl ?_
  rw [show ((3 : Int32) + (-1 : Int32)) = (2 : Int32) from by decide]
  refine Go.goto (pc' := 18) C X103 d12_35 (by decide) (by decide) ?_
  refine Go.iloadN (pc' := 19) C X103 d12_18 rfl rfl ?_
  refine Go.ifNo (pc' := 22) C X103 d12_19 ((if0 _ _).trans (flt (x := (2 : Int32)) (y := (0 : Int32)) (by decide)).1) rfl ?_
  refine Go.aloadN (pc' := 23) C X103 d12_22 rfl rfl rfl ?_
  refine Go.iloadN (pc' := 24) C X103 d12_23 rfl rfl ?_
  refine Go.ldB (i := 2) (v := (.int x2.toInt8.toInt32)) (pc' := 25) C X103 e103 Bx (by decide) (by decide) (by8_get rfl) d12_24 rfl ?_
  refine Go.iloadN (pc' := 26) C X103 d12_25 rfl rfl ?_
  refine Go.i2b (pc' := 27) C X103 d12_26 rfl ?_
  refine Go.icmpNo (pc' := 30) C X103 d12_27 (teq (x := x2.toInt8.toInt32) (y := ((64 : Int32).toInt8.toInt32)) ((b64 hx2).mpr qe2)).2 rfl ?_
  refine Go.iloadN (pc' := 31) C X103 d12_30 rfl rfl ?_
  exact Go.retI C X103 rfl d12_31 (by rw [e103]; exact ⟨rfl, (by simp), rfl⟩) (by decide) (by decide)
def Q_lj42 (Z : State) (s1 : Addr) (v : Addr) (k : ClassId) (x0 : Int32) (x1 : Int32) (x2 : Int32) (x3 : Int32) (cP : Int32) (h0 : Heap) (rv : Option Value) (h : Heap) (L : List Loc) : Prop := rv = some (.int (2 : Int32)) ∧ L = [] ∧ h = h0
theorem rm_lj42 (l : Launch) (Z : State) (a0 : Array Value) (hw : ∀ d ∈ tables_1, d.before a0 Z = true) (s1 : Addr) (v : Addr) (k : ClassId) (x0 : Int32) (x1 : Int32) (x2 : Int32) (x3 : Int32) (cP : Int32) (h0 : Heap) (O0 : Ext Z.heap h0) (E0 : Exa Z h0 s1 "java/lang/String") (Fv : Fld Z h0 s1 "java/lang/String" "value" "[B" (.ref v)) (Fc : Fld Z h0 s1 "java/lang/String" "coder" "B" (.int (0 : Int32))) (Bx : AL Z h0 v k .byte (by8 [x0, x1, x2, x3])) (SC : Sta Z Z.heap "java/lang/String" "COMPACT_STRINGS" "Z" (.int cP)) (hx0 : 0 ≤ x0.toInt ∧ x0.toInt ≤ 255) (hx1 : 0 ≤ x1.toInt ∧ x1.toInt ≤ 255) (hx2 : 0 ≤ x2.toInt ∧ x2.toInt ≤ 255) (hx3 : 0 ≤ x3.toInt ∧ x3.toInt ≤ 255) (qe2 : x2 = (64 : Int32)) (qe3 : ¬ x3 = (64 : Int32)) (hP : ¬ cP = (0 : Int32)) :
    Met1 l Z mN9 jdk_42_method_83_code 3 (some .int) ({ frames := 2, cells := 0, slots := 0, locals := 28 } : Room) #[(.ref s1), (.int (64 : Int32)), (.int (3 : Int32))] h0 (Q_lj42 Z s1 v k x0 x1 x2 x3 cP h0) := by
  refine Met1.of_body (Ls := #[.val (.ref s1), .val (.int (64 : Int32)), .val (.int (3 : Int32))]) pf_10 (fun m => by first | (simp [entryFrame, mkF, argsToLocals, Value.category]; done) | rfl) ?_
  intro p e s m below meth c T0 C X0 e0
  have N0 : Fr Z.heap.size [] := Fr.nil _
  refine Go.aloadN (pc' := 1) C X0 d10_0 rfl rfl rfl ?_
  refine Go.callV (y := mN7) (z := mN7) (a := s1) (pc' := 4) C X0 (tw hw 55 rfl) (tw hw 56 rfl) (notFace_at C.2.1 (tw hw 58 rfl)) (tw hw 58 rfl) (tw hw 57 rfl) E0 (by decide) (rm_isL l Z a0 hw s1 cP h0 O0 Fc SC hP) (tw hw 59 rfl) (tw hw 11 rfl) e0 (argsL := []) (rest := []) (W := 0) rfl rfl pd_13 rfl (Nat.le_of_eq rfl) rfl (by decide) (by decide) (by decide) (by decide) d10_1 rfl ?_
  intro T101 v101 L101 X101 q101
  obtain ⟨rfl, rfl, e101⟩ := q101
  have N101 := Fr.app N0 (Fr.nil _)
  refine Go.ifNo (pc' := 7) C X101 d10_4 ((if0 _ _).trans (feq (x := (1 : Int32)) (y := (0 : Int32)) (by decide)).1) rfl ?_
  refine Go.aloadN (pc' := 8) C X101 d10_7 rfl rfl rfl ?_
  refine Go.getF (pc' := 11) (host := "") C X101 (Or.inl (tw hw 28 rfl)) Via.refl e101 Fv d10_8 rfl ?_
  intro T103 X103 e103
  refine Go.iloadN (pc' := 12) C X103 d10_11 rfl rfl ?_
  refine Go.iloadN (pc' := 13) C X103 d10_12 rfl rfl ?_
  refine Go.callS (y := mN15) (pc' := 16) C X103 (tw hw 60 rfl) (tw hw 61 rfl) (by decide) (rm_li42 l Z a0 hw v k x0 x1 x2 x3 h0 O0 Bx hx0 hx1 hx2 hx3 qe2 qe3) (tw hw 63 rfl) (tw hw 62 rfl) e103 (argsL := [(.ref v), (.int (64 : Int32)), (.int (3 : Int32))]) (rest := []) (W := 0) rfl rfl pd_21 rfl (Nat.le_of_eq rfl) rfl (by decide) (by decide) (by decide) (by decide) d10_13 rfl ?_
  intro T104 v104 L104 X104 q104
  obtain ⟨rfl, rfl, e104⟩ := q104
  have N104 := Fr.app N101 (Fr.nil _)
  refine Go.goto (pc' := 28) C X104 d10_16 (by decide) (by decide) ?_
  exact Go.retI C X104 rfl d10_28 (by rw [e104]; exact ⟨rfl, (by simp), rfl⟩) (by decide) (by decide)
def Q_lk42 (Z : State) (s1 : Addr) (v : Addr) (k : ClassId) (x0 : Int32) (x1 : Int32) (x2 : Int32) (x3 : Int32) (cP : Int32) (h0 : Heap) (rv : Option Value) (h : Heap) (L : List Loc) : Prop := rv = some (.int (2 : Int32)) ∧ L = [] ∧ h = h0
theorem rm_lk42 (l : Launch) (Z : State) (a0 : Array Value) (hw : ∀ d ∈ tables_1, d.before a0 Z = true) (s1 : Addr) (v : Addr) (k : ClassId) (x0 : Int32) (x1 : Int32) (x2 : Int32) (x3 : Int32) (cP : Int32) (h0 : Heap) (O0 : Ext Z.heap h0) (E0 : Exa Z h0 s1 "java/lang/String") (Fv : Fld Z h0 s1 "java/lang/String" "value" "[B" (.ref v)) (Fc : Fld Z h0 s1 "java/lang/String" "coder" "B" (.int (0 : Int32))) (Bx : AL Z h0 v k .byte (by8 [x0, x1, x2, x3])) (SC : Sta Z Z.heap "java/lang/String" "COMPACT_STRINGS" "Z" (.int cP)) (hx0 : 0 ≤ x0.toInt ∧ x0.toInt ≤ 255) (hx1 : 0 ≤ x1.toInt ∧ x1.toInt ≤ 255) (hx2 : 0 ≤ x2.toInt ∧ x2.toInt ≤ 255) (hx3 : 0 ≤ x3.toInt ∧ x3.toInt ≤ 255) (qe2 : x2 = (64 : Int32)) (qe3 : ¬ x3 = (64 : Int32)) (hP : ¬ cP = (0 : Int32)) :
    Met1 l Z mN8 jdk_42_method_82_code 2 (some .int) ({ frames := 3, cells := 0, slots := 0, locals := 42 } : Room) #[(.ref s1), (.int (64 : Int32))] h0 (Q_lk42 Z s1 v k x0 x1 x2 x3 cP h0) := by
  refine Met1.of_body (Ls := #[.val (.ref s1), .val (.int (64 : Int32))]) pf_7 (fun m => by first | (simp [entryFrame, mkF, argsToLocals, Value.category]; done) | rfl) ?_
  intro p e s m below meth c T0 C X0 e0
  have N0 : Fr Z.heap.size [] := Fr.nil _
  refine Go.aloadN (pc' := 1) C X0 d7_0 rfl rfl rfl ?_
  refine Go.iloadN (pc' := 2) C X0 d7_1 rfl rfl ?_
  refine Go.aloadN (pc' := 3) C X0 d7_2 rfl rfl rfl ?_
  refine Go.callV (y := mN10) (z := mN10) (a := s1) (pc' := 6) C X0 (tw hw 39 rfl) (tw hw 40 rfl) (notFace_at C.2.1 (tw hw 42 rfl)) (tw hw 42 rfl) (tw hw 41 rfl) E0 (by decide) (rm_len l Z a0 hw s1 v k ([x0, x1, x2, x3]) cP ((4 : Int32)) h0 O0 E0 Fv Fc Bx SC hP rfl) (tw hw 43 rfl) (tw hw 11 rfl) e0 (argsL := []) (rest := [(.int (64 : Int32)), (.ref s1)]) (W := 2) rfl rfl pd_11 rfl (Nat.le_of_eq rfl) rfl (by decide) (by decide) (by decide) (by decide) d7_3 rfl ?_
  intro T101 v101 L101 X101 q101
  obtain ⟨rfl, rfl, e101⟩ := q101
  have N101 := Fr.app N0 (Fr.nil _)
  refine Go.iconst (z := (1 : Int32)) (pc' := 7) C X101 d7_6 rfl rfl ?_
  refine Go.isub (pc' := 8) C X101 d7_7 rfl ?_
  rw [show ((4 : Int32) - (1 : Int32)) = (3 : Int32) from by decide]
  refine Go.callV (y := mN9) (z := mN9) (a := s1) (pc' := 11) C X101 (tw hw 50 rfl) (tw hw 51 rfl) (notFace_at C.2.1 (tw hw 53 rfl)) (tw hw 53 rfl) (tw hw 52 rfl) E0 (by decide) (rm_lj42 l Z a0 hw s1 v k x0 x1 x2 x3 cP h0 O0 E0 Fv Fc Bx SC hx0 hx1 hx2 hx3 qe2 qe3 hP) (tw hw 54 rfl) (tw hw 11 rfl) e101 (argsL := [(.int (64 : Int32)), (.int (3 : Int32))]) (rest := []) (W := 0) rfl rfl pd_17 rfl (Nat.le_of_eq rfl) rfl (by decide) (by decide) (by decide) (by decide) d7_8 rfl ?_
  intro T102 v102 L102 X102 q102
  obtain ⟨rfl, rfl, e102⟩ := q102
  have N102 := Fr.app N101 (Fr.nil _)
  exact Go.retI C X102 rfl d7_11 (by rw [e102]; exact ⟨rfl, (by simp), rfl⟩) (by decide) (by decide)
def Q_sc42 (Z : State) (s1 : Addr) (v : Addr) (k : ClassId) (x0 : Int32) (x1 : Int32) (x2 : Int32) (x3 : Int32) (cP : Int32) (fm : Value) (h0 : Heap) (rv : Option Value) (h : Heap) (L : List Loc) : Prop := ∃ o : Addr, ∃ r : Addr, ∃ u : Addr, ∃ ku : ClassId, rv = some (.ref o) ∧ Fr Z.heap.size L ∧ Keep h0 h [] ∧ h0.size ≤ o ∧ h0.size ≤ r ∧ h0.size ≤ u ∧ Exa Z h o "java/util/Optional" ∧ Fld Z h o "java/util/Optional" "value" "Ljava/lang/Object;" (.ref r) ∧ Exa Z h r "java/lang/String" ∧ Fld Z h r "java/lang/String" "value" "[B" (.ref u) ∧ Fld Z h r "java/lang/String" "coder" "B" (.int (0 : Int32)) ∧ AL Z h u ku .byte (by8 [x3])
theorem rm_sc42 (l : Launch) (Z : State) (a0 : Array Value) (hw : ∀ d ∈ tables_1, d.before a0 Z = true) (s1 : Addr) (v : Addr) (k : ClassId) (x0 : Int32) (x1 : Int32) (x2 : Int32) (x3 : Int32) (cP : Int32) (fm : Value) (h0 : Heap) (O0 : Ext Z.heap h0) (E0 : Exa Z h0 s1 "java/lang/String") (Fv : Fld Z h0 s1 "java/lang/String" "value" "[B" (.ref v)) (Fc : Fld Z h0 s1 "java/lang/String" "coder" "B" (.int (0 : Int32))) (Bx : AL Z h0 v k .byte (by8 [x0, x1, x2, x3])) (SC : Sta Z Z.heap "java/lang/String" "COMPACT_STRINGS" "Z" (.int cP)) (SF : Sta Z Z.heap "jdk/internal/util/Preconditions" "SIOOBE_FORMATTER" "Ljava/util/function/BiFunction;" fm) (hx0 : 0 ≤ x0.toInt ∧ x0.toInt ≤ 255) (hx1 : 0 ≤ x1.toInt ∧ x1.toInt ≤ 255) (hx2 : 0 ≤ x2.toInt ∧ x2.toInt ≤ 255) (hx3 : 0 ≤ x3.toInt ∧ x3.toInt ≤ 255) (qe2 : x2 = (64 : Int32)) (qe3 : ¬ x3 = (64 : Int32)) (hP : ¬ cP = (0 : Int32)) (hfm : fm.category = 1) :
    Met1 l Z mN30 prog_20_method_8_code 2 (some (.object "java/util/Optional")) ({ frames := 6, cells := 3, slots := 6, locals := 93 } : Room) #[(.ref s1)] h0 (Q_sc42 Z s1 v k x0 x1 x2 x3 cP fm h0) := by
  refine Met1.of_body (Ls := #[.val (.ref s1), .unset]) pf_6 (fun m => by first | (simp [entryFrame, mkF, argsToLocals, Value.category]; done) | rfl) ?_
  intro p e s m below meth c T0 C X0 e0
  have N0 : Fr Z.heap.size [] := Fr.nil _
  refine Go.aloadN (pc' := 1) C X0 d6_0 rfl rfl rfl ?_
  refine Go.bipush (z := (64 : Int32)) (pc' := 3) C X0 d6_1 rfl rfl ?_
  refine Go.callV (y := mN8) (z := mN8) (a := s1) (pc' := 6) C X0 (tw hw 34 rfl) (tw hw 35 rfl) (notFace_at C.2.1 (tw hw 37 rfl)) (tw hw 37 rfl) (tw hw 36 rfl) E0 (by decide) (rm_lk42 l Z a0 hw s1 v k x0 x1 x2 x3 cP h0 O0 E0 Fv Fc Bx SC hx0 hx1 hx2 hx3 qe2 qe3 hP) (tw hw 38 rfl) (tw hw 11 rfl) e0 (argsL := [(.int (64 : Int32))]) (rest := []) (W := 0) rfl rfl pd_22 rfl (Nat.le_of_eq rfl) rfl (by decide) (by decide) (by decide) (by decide) d6_3 rfl ?_
  intro T101 v101 L101 X101 q101
  obtain ⟨rfl, rfl, e101⟩ := q101
  have N101 := Fr.app N0 (Fr.nil _)
  refine Go.istoreN (Ls' := #[.val (.ref s1), .val (.int (2 : Int32))]) (pc' := 7) C X101 d6_6 rfl rfl ?_
  refine Go.iloadN (pc' := 8) C X101 d6_7 rfl rfl ?_
  refine Go.ifYes (pc' := 17) C X101 d6_8 ((if0 _ _).trans (flt (x := (2 : Int32)) (y := (0 : Int32)) (by decide)).2.1) (by decide) (by decide) ?_
  refine Go.aloadN (pc' := 18) C X101 d6_17 rfl rfl rfl ?_
  refine Go.iloadN (pc' := 19) C X101 d6_18 rfl rfl ?_
  refine Go.iconst (z := (1 : Int32)) (pc' := 20) C X101 d6_19 rfl rfl ?_
  refine Go.iadd (pc' := 21) C X101 d6_20 rfl ?_
  rw [show ((2 : Int32) + (1 : Int32)) = (3 : Int32) from by decide]
  refine Go.callV (y := mN11) (z := mN11) (a := s1) (pc' := 24) C X101 (tw hw 96 rfl) (tw hw 97 rfl) (notFace_at C.2.1 (tw hw 99 rfl)) (tw hw 99 rfl) (tw hw 98 rfl) E0 (by decide) (rm_su134 l Z a0 hw s1 v k x0 x1 x2 x3 cP fm h0 O0 E0 Fv Fc Bx SC SF hP hfm) (tw hw 100 rfl) (tw hw 11 rfl) e101 (argsL := [(.int (3 : Int32))]) (rest := []) (W := 0) rfl rfl pd_24 rfl (Nat.le_of_eq rfl) rfl (by decide) (by decide) (by decide) (by decide) d6_21 rfl ?_
  intro T103 v103 L103 X103 q103
  obtain ⟨r_103, u_103, ku_103, rfl, N103q, K103, B103_0, B103_1, P103_0, P103_1, P103_2, P103_3⟩ := q103
  have N103 := Fr.app N101 N103q
  have n_r_103 : Z.heap.size ≤ r_103 := Nat.le_trans O0.1 B103_0
  have z_r_103 : h0.size ≤ r_103 := Nat.le_trans (Nat.le_refl _) B103_0
  have n_u_103 : Z.heap.size ≤ u_103 := Nat.le_trans O0.1 B103_1
  have z_u_103 : h0.size ≤ u_103 := Nat.le_trans (Nat.le_refl _) B103_1
  have O105 : Ext Z.heap T103.heap := (Ext.keep O0 K103 all0)
  refine Go.callS (y := mN28) (pc' := 27) C X103 (tw hw 118 rfl) (tw hw 119 rfl) (by decide) (rm_oof l Z a0 hw r_103 T103.heap O105 ) (tw hw 120 rfl) (tw hw 73 rfl) rfl (argsL := [(.ref r_103)]) (rest := []) (W := 0) rfl rfl pd_25 rfl (Nat.le_of_eq rfl) rfl (by decide) (by decide) (by decide) (by decide) d6_24 rfl ?_
  intro T104 v104 L104 X104 q104
  obtain ⟨o_104, rfl, N104q, K104, B104_0, P104_0, P104_1⟩ := q104
  have N104 := Fr.app N103 N104q
  have n_o_104 : Z.heap.size ≤ o_104 := Nat.le_trans O105.1 B104_0
  have z_o_104 : h0.size ≤ o_104 := Nat.le_trans (Nat.le_trans (Nat.le_refl _) K103.1) B104_0
  have K106 : Keep h0 T104.heap [] := (((Keep.refl h0 []).trans K103 all0).trans K104 all0)
  have c107 : Exa Z T104.heap r_103 "java/lang/String" := (Exa.keep P103_0 K104)
  have c108 : Fld Z T104.heap r_103 "java/lang/String" "value" "[B" (.ref u_103) := (Fld.keep P103_1 K104 nin0)
  have c109 : Fld Z T104.heap r_103 "java/lang/String" "coder" "B" (.int (0 : Int32)) := (Fld.keep P103_2 K104 nin0)
  have c110 : AL Z T104.heap u_103 ku_103 .byte (by8 [x3]) := (AL.keep P103_3 K104 nin0)
  exact Go.retA C X104 rfl d6_27 rfl rfl rfl ⟨o_104, r_103, u_103, ku_103, rfl, N104, K106, z_o_104, z_r_103, z_u_103, P104_0, P104_1, c107, c108, c109, c110⟩ (by decide) (by decide)
def Q_li43 (Z : State) (v : Addr) (k : ClassId) (x0 : Int32) (x1 : Int32) (x2 : Int32) (x3 : Int32) (h0 : Heap) (rv : Option Value) (h : Heap) (L : List Loc) : Prop := rv = some (.int (3 : Int32)) ∧ L = [] ∧ h = h0
theorem rm_li43 (l : Launch) (Z : State) (a0 : Array Value) (hw : ∀ d ∈ tables_1, d.before a0 Z = true) (v : Addr) (k : ClassId) (x0 : Int32) (x1 : Int32) (x2 : Int32) (x3 : Int32) (h0 : Heap) (O0 : Ext Z.heap h0) (Bx : AL Z h0 v k .byte (by8 [x0, x1, x2, x3])) (hx0 : 0 ≤ x0.toInt ∧ x0.toInt ≤ 255) (hx1 : 0 ≤ x1.toInt ∧ x1.toInt ≤ 255) (hx2 : 0 ≤ x2.toInt ∧ x2.toInt ≤ 255) (hx3 : 0 ≤ x3.toInt ∧ x3.toInt ≤ 255) (qe3 : x3 = (64 : Int32)) :
    Met1 l Z mN15 jdk_43_method_27_code 4 (some .int) ({ frames := 1, cells := 0, slots := 0, locals := 13 } : Room) #[(.ref v), (.int (64 : Int32)), (.int (3 : Int32))] h0 (Q_li43 Z v k x0 x1 x2 x3 h0) := by
  refine Met1.of_body (Ls := #[.val (.ref v), .val (.int (64 : Int32)), .val (.int (3 : Int32)), .unset]) pf_12 (fun m => by first | (simp [entryFrame, mkF, argsToLocals, Value.category]; done) | rfl) ?_
  intro p e s m below meth c T0 C X0 e0
  have N0 : Fr Z.heap.size [] := Fr.nil _
  refine Go.iloadN (pc' := 1) C X0 d12_0 rfl rfl ?_
  refine Go.callS (y := mN13) (pc' := 4) C X0 (tw hw 64 rfl) (tw hw 65 rfl) (by decide) (rm_ce l Z a0 hw  h0 O0 ) (tw hw 66 rfl) (tw hw 62 rfl) e0 (argsL := [(.int (64 : Int32))]) (rest := []) (W := 0) rfl rfl pd_20 rfl (Nat.le_of_eq rfl) rfl (by decide) (by decide) (by decide) (by decide) d12_1 rfl ?_
  intro T101 v101 L101 X101 q101
  obtain ⟨rfl, rfl, e101⟩ := q101
  have N101 := Fr.app N0 (Fr.nil _)
  refine Go.ifYes (pc' := 9) C X101 d12_4 ((if0 _ _).trans (feq (x := (1 : Int32)) (y := (0 : Int32)) (by decide)).2) (by decide) (by decide) ?_
  refine Go.iloadN (pc' := 10) C X101 d12_9 rfl rfl ?_
  refine Go.aloadN (pc' := 11) C X101 d12_10 rfl rfl rfl ?_
  refine Go.alen (z := (4 : Int32)) (pc' := 12) C X101 e101 Bx (by rw [by8_len]; rfl) d12_11 rfl ?_
  refine Go.iconst (z := (1 : Int32)) (pc' := 13) C X101 d12_12 rfl rfl ?_
  refine Go.isub (pc' := 14) C X101 d12_13 rfl ?_
  rw [show ((4 : Int32) - (1 : Int32)) = (3 : Int32) from by decide]
  refine Go.callS (y := mN0) (pc' := 17) C X101 (tw hw 67 rfl) (tw hw 68 rfl) (by decide) (rm_mn l Z a0 hw ((3 : Int32)) h0 O0 ) (tw hw 70 rfl) (tw hw 69 rfl) e101 (argsL := [(.int (3 : Int32)), (.int (3 : Int32))]) (rest := []) (W := 0) rfl rfl pd_17 rfl (Nat.le_of_eq rfl) rfl (by decide) (by decide) (by decide) (by decide) d12_14 rfl ?_
  intro T103 v103 L103 X103 q103
  obtain ⟨rfl, rfl, e103⟩ := q103
  have N103 := Fr.app N101 (Fr.nil _)
  refine Go.istoreN (Ls' := #[.val (.ref v), .val (.int (64 : Int32)), .val (.int (3 : Int32)), .val (.int (3 : Int32))]) (pc' := 18) C X103 d12_17 rfl rfl ?_
  refine Go.iloadN (pc' := 19) C X103 d12_18 rfl rfl ?_
  refine Go.ifNo (pc' := 22) C X103 d12_19 ((if0 _ _).trans (flt (x := (3 : Int32)) (y := (0 : Int32)) (by decide)).1) rfl ?_
  refine Go.aloadN (pc' := 23) C X103 d12_22 rfl rfl rfl ?_
  refine Go.iloadN (pc' := 24) C X103 d12_23 rfl rfl ?_
  refine Go.ldB (i := 3) (v := (.int x3.toInt8.toInt32)) (pc' := 25) C X103 e103 Bx (by decide) (by decide) (by8_get rfl) d12_24 rfl ?_
  refine Go.iloadN (pc' := 26) C X103 d12_25 rfl rfl ?_
  refine Go.i2b (pc' := 27) C X103 d12_26 rfl ?_
  refine Go.icmpNo (pc' := 30) C X103 d12_27 (teq (x := x3.toInt8.toInt32) (y := ((64 : Int32).toInt8.toInt32)) ((b64 hx3).mpr qe3)).2 rfl ?_
  refine Go.iloadN (pc' := 31) C X103 d12_30 rfl rfl ?_
  exact Go.retI C X103 rfl d12_31 (by rw [e103]; exact ⟨rfl, (by simp), rfl⟩) (by decide) (by decide)
def Q_lj43 (Z : State) (s1 : Addr) (v : Addr) (k : ClassId) (x0 : Int32) (x1 : Int32) (x2 : Int32) (x3 : Int32) (cP : Int32) (h0 : Heap) (rv : Option Value) (h : Heap) (L : List Loc) : Prop := rv = some (.int (3 : Int32)) ∧ L = [] ∧ h = h0
theorem rm_lj43 (l : Launch) (Z : State) (a0 : Array Value) (hw : ∀ d ∈ tables_1, d.before a0 Z = true) (s1 : Addr) (v : Addr) (k : ClassId) (x0 : Int32) (x1 : Int32) (x2 : Int32) (x3 : Int32) (cP : Int32) (h0 : Heap) (O0 : Ext Z.heap h0) (E0 : Exa Z h0 s1 "java/lang/String") (Fv : Fld Z h0 s1 "java/lang/String" "value" "[B" (.ref v)) (Fc : Fld Z h0 s1 "java/lang/String" "coder" "B" (.int (0 : Int32))) (Bx : AL Z h0 v k .byte (by8 [x0, x1, x2, x3])) (SC : Sta Z Z.heap "java/lang/String" "COMPACT_STRINGS" "Z" (.int cP)) (hx0 : 0 ≤ x0.toInt ∧ x0.toInt ≤ 255) (hx1 : 0 ≤ x1.toInt ∧ x1.toInt ≤ 255) (hx2 : 0 ≤ x2.toInt ∧ x2.toInt ≤ 255) (hx3 : 0 ≤ x3.toInt ∧ x3.toInt ≤ 255) (qe3 : x3 = (64 : Int32)) (hP : ¬ cP = (0 : Int32)) :
    Met1 l Z mN9 jdk_42_method_83_code 3 (some .int) ({ frames := 2, cells := 0, slots := 0, locals := 28 } : Room) #[(.ref s1), (.int (64 : Int32)), (.int (3 : Int32))] h0 (Q_lj43 Z s1 v k x0 x1 x2 x3 cP h0) := by
  refine Met1.of_body (Ls := #[.val (.ref s1), .val (.int (64 : Int32)), .val (.int (3 : Int32))]) pf_10 (fun m => by first | (simp [entryFrame, mkF, argsToLocals, Value.category]; done) | rfl) ?_
  intro p e s m below meth c T0 C X0 e0
  have N0 : Fr Z.heap.size [] := Fr.nil _
  refine Go.aloadN (pc' := 1) C X0 d10_0 rfl rfl rfl ?_
  refine Go.callV (y := mN7) (z := mN7) (a := s1) (pc' := 4) C X0 (tw hw 55 rfl) (tw hw 56 rfl) (notFace_at C.2.1 (tw hw 58 rfl)) (tw hw 58 rfl) (tw hw 57 rfl) E0 (by decide) (rm_isL l Z a0 hw s1 cP h0 O0 Fc SC hP) (tw hw 59 rfl) (tw hw 11 rfl) e0 (argsL := []) (rest := []) (W := 0) rfl rfl pd_13 rfl (Nat.le_of_eq rfl) rfl (by decide) (by decide) (by decide) (by decide) d10_1 rfl ?_
  intro T101 v101 L101 X101 q101
  obtain ⟨rfl, rfl, e101⟩ := q101
  have N101 := Fr.app N0 (Fr.nil _)
  refine Go.ifNo (pc' := 7) C X101 d10_4 ((if0 _ _).trans (feq (x := (1 : Int32)) (y := (0 : Int32)) (by decide)).1) rfl ?_
  refine Go.aloadN (pc' := 8) C X101 d10_7 rfl rfl rfl ?_
  refine Go.getF (pc' := 11) (host := "") C X101 (Or.inl (tw hw 28 rfl)) Via.refl e101 Fv d10_8 rfl ?_
  intro T103 X103 e103
  refine Go.iloadN (pc' := 12) C X103 d10_11 rfl rfl ?_
  refine Go.iloadN (pc' := 13) C X103 d10_12 rfl rfl ?_
  refine Go.callS (y := mN15) (pc' := 16) C X103 (tw hw 60 rfl) (tw hw 61 rfl) (by decide) (rm_li43 l Z a0 hw v k x0 x1 x2 x3 h0 O0 Bx hx0 hx1 hx2 hx3 qe3) (tw hw 63 rfl) (tw hw 62 rfl) e103 (argsL := [(.ref v), (.int (64 : Int32)), (.int (3 : Int32))]) (rest := []) (W := 0) rfl rfl pd_21 rfl (Nat.le_of_eq rfl) rfl (by decide) (by decide) (by decide) (by decide) d10_13 rfl ?_
  intro T104 v104 L104 X104 q104
  obtain ⟨rfl, rfl, e104⟩ := q104
  have N104 := Fr.app N101 (Fr.nil _)
  refine Go.goto (pc' := 28) C X104 d10_16 (by decide) (by decide) ?_
  exact Go.retI C X104 rfl d10_28 (by rw [e104]; exact ⟨rfl, (by simp), rfl⟩) (by decide) (by decide)
def Q_lk43 (Z : State) (s1 : Addr) (v : Addr) (k : ClassId) (x0 : Int32) (x1 : Int32) (x2 : Int32) (x3 : Int32) (cP : Int32) (h0 : Heap) (rv : Option Value) (h : Heap) (L : List Loc) : Prop := rv = some (.int (3 : Int32)) ∧ L = [] ∧ h = h0
theorem rm_lk43 (l : Launch) (Z : State) (a0 : Array Value) (hw : ∀ d ∈ tables_1, d.before a0 Z = true) (s1 : Addr) (v : Addr) (k : ClassId) (x0 : Int32) (x1 : Int32) (x2 : Int32) (x3 : Int32) (cP : Int32) (h0 : Heap) (O0 : Ext Z.heap h0) (E0 : Exa Z h0 s1 "java/lang/String") (Fv : Fld Z h0 s1 "java/lang/String" "value" "[B" (.ref v)) (Fc : Fld Z h0 s1 "java/lang/String" "coder" "B" (.int (0 : Int32))) (Bx : AL Z h0 v k .byte (by8 [x0, x1, x2, x3])) (SC : Sta Z Z.heap "java/lang/String" "COMPACT_STRINGS" "Z" (.int cP)) (hx0 : 0 ≤ x0.toInt ∧ x0.toInt ≤ 255) (hx1 : 0 ≤ x1.toInt ∧ x1.toInt ≤ 255) (hx2 : 0 ≤ x2.toInt ∧ x2.toInt ≤ 255) (hx3 : 0 ≤ x3.toInt ∧ x3.toInt ≤ 255) (qe3 : x3 = (64 : Int32)) (hP : ¬ cP = (0 : Int32)) :
    Met1 l Z mN8 jdk_42_method_82_code 2 (some .int) ({ frames := 3, cells := 0, slots := 0, locals := 42 } : Room) #[(.ref s1), (.int (64 : Int32))] h0 (Q_lk43 Z s1 v k x0 x1 x2 x3 cP h0) := by
  refine Met1.of_body (Ls := #[.val (.ref s1), .val (.int (64 : Int32))]) pf_7 (fun m => by first | (simp [entryFrame, mkF, argsToLocals, Value.category]; done) | rfl) ?_
  intro p e s m below meth c T0 C X0 e0
  have N0 : Fr Z.heap.size [] := Fr.nil _
  refine Go.aloadN (pc' := 1) C X0 d7_0 rfl rfl rfl ?_
  refine Go.iloadN (pc' := 2) C X0 d7_1 rfl rfl ?_
  refine Go.aloadN (pc' := 3) C X0 d7_2 rfl rfl rfl ?_
  refine Go.callV (y := mN10) (z := mN10) (a := s1) (pc' := 6) C X0 (tw hw 39 rfl) (tw hw 40 rfl) (notFace_at C.2.1 (tw hw 42 rfl)) (tw hw 42 rfl) (tw hw 41 rfl) E0 (by decide) (rm_len l Z a0 hw s1 v k ([x0, x1, x2, x3]) cP ((4 : Int32)) h0 O0 E0 Fv Fc Bx SC hP rfl) (tw hw 43 rfl) (tw hw 11 rfl) e0 (argsL := []) (rest := [(.int (64 : Int32)), (.ref s1)]) (W := 2) rfl rfl pd_11 rfl (Nat.le_of_eq rfl) rfl (by decide) (by decide) (by decide) (by decide) d7_3 rfl ?_
  intro T101 v101 L101 X101 q101
  obtain ⟨rfl, rfl, e101⟩ := q101
  have N101 := Fr.app N0 (Fr.nil _)
  refine Go.iconst (z := (1 : Int32)) (pc' := 7) C X101 d7_6 rfl rfl ?_
  refine Go.isub (pc' := 8) C X101 d7_7 rfl ?_
  rw [show ((4 : Int32) - (1 : Int32)) = (3 : Int32) from by decide]
  refine Go.callV (y := mN9) (z := mN9) (a := s1) (pc' := 11) C X101 (tw hw 50 rfl) (tw hw 51 rfl) (notFace_at C.2.1 (tw hw 53 rfl)) (tw hw 53 rfl) (tw hw 52 rfl) E0 (by decide) (rm_lj43 l Z a0 hw s1 v k x0 x1 x2 x3 cP h0 O0 E0 Fv Fc Bx SC hx0 hx1 hx2 hx3 qe3 hP) (tw hw 54 rfl) (tw hw 11 rfl) e101 (argsL := [(.int (64 : Int32)), (.int (3 : Int32))]) (rest := []) (W := 0) rfl rfl pd_17 rfl (Nat.le_of_eq rfl) rfl (by decide) (by decide) (by decide) (by decide) d7_8 rfl ?_
  intro T102 v102 L102 X102 q102
  obtain ⟨rfl, rfl, e102⟩ := q102
  have N102 := Fr.app N101 (Fr.nil _)
  exact Go.retI C X102 rfl d7_11 (by rw [e102]; exact ⟨rfl, (by simp), rfl⟩) (by decide) (by decide)
def Q_sc43 (Z : State) (s1 : Addr) (v : Addr) (k : ClassId) (x0 : Int32) (x1 : Int32) (x2 : Int32) (x3 : Int32) (cP : Int32) (fm : Value) (h0 : Heap) (rv : Option Value) (h : Heap) (L : List Loc) : Prop := ∃ o : Addr, ∃ r : Addr, ∃ u : Addr, ∃ ku : ClassId, rv = some (.ref o) ∧ Fr Z.heap.size L ∧ Keep h0 h [] ∧ h0.size ≤ o ∧ Exa Z h o "java/util/Optional" ∧ Fld Z h o "java/util/Optional" "value" "Ljava/lang/Object;" (.ref r) ∧ Exa Z h r "java/lang/String" ∧ Fld Z h r "java/lang/String" "value" "[B" (.ref u) ∧ Fld Z h r "java/lang/String" "coder" "B" (.int (0 : Int32)) ∧ AL Z h u ku .byte (by8 [])
theorem rm_sc43 (l : Launch) (Z : State) (a0 : Array Value) (hw : ∀ d ∈ tables_1, d.before a0 Z = true) (s1 : Addr) (v : Addr) (k : ClassId) (x0 : Int32) (x1 : Int32) (x2 : Int32) (x3 : Int32) (cP : Int32) (fm : Value) (h0 : Heap) (O0 : Ext Z.heap h0) (E0 : Exa Z h0 s1 "java/lang/String") (Fv : Fld Z h0 s1 "java/lang/String" "value" "[B" (.ref v)) (Fc : Fld Z h0 s1 "java/lang/String" "coder" "B" (.int (0 : Int32))) (Bx : AL Z h0 v k .byte (by8 [x0, x1, x2, x3])) (SC : Sta Z Z.heap "java/lang/String" "COMPACT_STRINGS" "Z" (.int cP)) (SF : Sta Z Z.heap "jdk/internal/util/Preconditions" "SIOOBE_FORMATTER" "Ljava/util/function/BiFunction;" fm) (hx0 : 0 ≤ x0.toInt ∧ x0.toInt ≤ 255) (hx1 : 0 ≤ x1.toInt ∧ x1.toInt ≤ 255) (hx2 : 0 ≤ x2.toInt ∧ x2.toInt ≤ 255) (hx3 : 0 ≤ x3.toInt ∧ x3.toInt ≤ 255) (qe3 : x3 = (64 : Int32)) (hP : ¬ cP = (0 : Int32)) (hfm : fm.category = 1) :
    Met1H consts_1 [] l Z mN30 prog_20_method_8_code 2 (some (.object "java/util/Optional")) ({ frames := 4, cells := 3, slots := 5, locals := 58 } : Room) #[(.ref s1)] h0 (Q_sc43 Z s1 v k x0 x1 x2 x3 cP fm h0) := by
  refine Met1H.of_body (Ls := #[.val (.ref s1), .unset]) pf_6 (fun m => by first | (simp [entryFrame, mkF, argsToLocals, Value.category]; done) | rfl) ?_
  intro p e s m below meth c T0 C X0 e0 hH0 hsf0
  have Hr0 := CHr.refl hH0
  have N0 : Fr Z.heap.size [] := Fr.nil _
  have Si0 : Sin s s h0 := Sin.start s h0
  refine Go.aloadN (pc' := 1) C X0 d6_0 rfl rfl rfl ?_
  refine Go.bipush (z := (64 : Int32)) (pc' := 3) C X0 d6_1 rfl rfl ?_
  refine Go.callV (y := mN8) (z := mN8) (a := s1) (pc' := 6) C X0 (tw hw 34 rfl) (tw hw 35 rfl) (notFace_at C.2.1 (tw hw 37 rfl)) (tw hw 37 rfl) (tw hw 36 rfl) E0 (by decide) (rm_lk43 l Z a0 hw s1 v k x0 x1 x2 x3 cP h0 O0 E0 Fv Fc Bx SC hx0 hx1 hx2 hx3 qe3 hP) (tw hw 38 rfl) (tw hw 11 rfl) e0 (argsL := [(.int (64 : Int32))]) (rest := []) (W := 0) rfl rfl pd_22 rfl (Nat.le_of_eq rfl) rfl (by decide) (by decide) (by decide) (by decide) d6_3 rfl ?_
  intro T101 v101 L101 X101 q101
  obtain ⟨rfl, rfl, e101⟩ := q101
  have N101 := Fr.app N0 (Fr.nil _)
  refine Go.istoreN (Ls' := #[.val (.ref s1), .val (.int (3 : Int32))]) (pc' := 7) C X101 d6_6 rfl rfl ?_
  refine Go.iloadN (pc' := 8) C X101 d6_7 rfl rfl ?_
  refine Go.ifYes (pc' := 17) C X101 d6_8 ((if0 _ _).trans (flt (x := (3 : Int32)) (y := (0 : Int32)) (by decide)).2.1) (by decide) (by decide) ?_
  refine Go.aloadN (pc' := 18) C X101 d6_17 rfl rfl rfl ?_
  refine Go.iloadN (pc' := 19) C X101 d6_18 rfl rfl ?_
  refine Go.iconst (z := (1 : Int32)) (pc' := 20) C X101 d6_19 rfl rfl ?_
  refine Go.iadd (pc' := 21) C X101 d6_20 rfl ?_
  rw [show ((3 : Int32) + (1 : Int32)) = (4 : Int32) from by decide]
  refine Go.callVH (y := mN11) (z := mN11) (a := s1) (pc' := 24) C X101 Si0 (EWc hw) Hr0.1 (tw hw 96 rfl) (tw hw 97 rfl) (notFace_at C.2.1 (tw hw 99 rfl)) (tw hw 99 rfl) (tw hw 98 rfl) E0 (by decide) all0 (rm_su144 l Z a0 hw s1 v k x0 x1 x2 x3 cP fm h0 O0 E0 Fv Fc Bx SC SF hP hfm) (tw hw 100 rfl) (tw hw 11 rfl) e101 (argsL := [(.int (4 : Int32))]) (rest := []) (W := 0) rfl rfl pd_24 rfl (Nat.le_of_eq rfl) rfl (by decide) (by decide) (by decide) (by decide) d6_21 rfl ?_
  intro T103 v103 L103 sC103 C103 X103 Si103 hR103 q103
  obtain ⟨r_103, u_103, ku_103, rfl, N103q, K103, P103_0, P103_1, P103_2, P103_3⟩ := q103
  have N103 := Fr.app N101 N103q
  have Hr104 := CHr.trans Hr0 hR103
  have O106 : Ext Z.heap T103.heap := (Ext.keep O0 K103 all0)
  refine Go.callS (y := mN28) (pc' := 27) C103 X103 (tw hw 118 rfl) (tw hw 119 rfl) (by decide) (rm_oof l Z a0 hw r_103 T103.heap O106 ) (tw hw 120 rfl) (tw hw 73 rfl) rfl (argsL := [(.ref r_103)]) (rest := []) (W := 0) rfl rfl pd_25 rfl (Nat.le_of_eq rfl) rfl (by decide) (by decide) (by decide) (by decide) d6_24 rfl ?_
  intro T105 v105 L105 X105 q105
  obtain ⟨o_105, rfl, N105q, K105, B105_0, P105_0, P105_1⟩ := q105
  have N105 := Fr.app N103 N105q
  have Hr107 := CHr.trans Hr104 (CHr.keep K105 all0 Hr104.1)
  have n_o_105 : Z.heap.size ≤ o_105 := Nat.le_trans O106.1 B105_0
  have z_o_105 : h0.size ≤ o_105 := Nat.le_trans (Nat.le_trans (Nat.le_refl _) K103.1) B105_0
  have s_o_105 : Safe Z consts_1 sC103.vm T105.heap o_105 := Safe.keep K105 all0 Hr104.1 (Safe.new B105_0)
  have K108 : Keep h0 T105.heap [] := (((Keep.refl h0 []).trans K103 all0).trans K105 all0)
  have c109 : Exa Z T105.heap r_103 "java/lang/String" := (Exa.keep P103_0 K105)
  have c110 : Fld Z T105.heap r_103 "java/lang/String" "value" "[B" (.ref u_103) := (Fld.keep P103_1 K105 nin0)
  have c111 : Fld Z T105.heap r_103 "java/lang/String" "coder" "B" (.int (0 : Int32)) := (Fld.keep P103_2 K105 nin0)
  have c112 : AL Z T105.heap u_103 ku_103 .byte (by8 []) := (AL.keep P103_3 K105 nin0)
  have Si113 : Sin s sC103 T105.heap := Sin.mono Si103 (Nat.le_trans (Nat.le_refl _) K105.1)
  exact Go.retAH C103 X105 Si113 (EWc hw) Hr107 rfl d6_27 rfl rfl rfl ⟨o_105, r_103, u_103, ku_103, rfl, N105, K108, z_o_105, P105_0, P105_1, c109, c110, c111, c112⟩ (by decide) (by decide)
theorem pd_26 : parseMethodDescriptor "(I)C" = some ⟨[.int], some .char⟩ := by decide +kernel
theorem pd_27 : parseMethodDescriptor "(CCCCII)Ljava/lang/String;" = some ⟨[.char, .char, .char, .char, .int, .int], some (.object "java/lang/String")⟩ := by decide +kernel
theorem pd_28 : parseMethodDescriptor "(Ljava/lang/String;)Ljava/util/Optional;" = some ⟨[(.object "java/lang/String")], some (.object "java/util/Optional")⟩ := by decide +kernel
theorem pd_29 : parseMethodDescriptor "()Ljava/lang/Object;" = some ⟨[], some (.object "java/lang/Object")⟩ := by decide +kernel
theorem pd_30 : parseMethodDescriptor "(Ljava/lang/Object;)Z" = some ⟨[(.object "java/lang/Object")], some .boolean⟩ := by decide +kernel
theorem pf_0 : plainFor x = true := plainFor_of_name (by first | (simp [plainName, overriddenIn, x]; done) | decide +kernel)
def Q_law (Z : State) (p1 : Int32) (p2 : Int32) (p3 : Int32) (p4 : Int32) (p5 : Int32) (cP : Int32) (fm : Value) (em : Addr) (h0 : Heap) (rv : Option Value) (h : Heap) (L : List Loc) : Prop := rv = some (.int (1 : Int32)) ∧ Fr Z.heap.size L ∧ Keep h0 h []
theorem rm_law (l : Launch) (Z : State) (a0 : Array Value) (hw : ∀ d ∈ tables_1, d.before a0 Z = true) (p1 : Int32) (p2 : Int32) (p3 : Int32) (p4 : Int32) (p5 : Int32) (cP : Int32) (fm : Value) (em : Addr) (h0 : Heap) (O0 : Ext Z.heap h0) (SC : Sta Z Z.heap "java/lang/String" "COMPACT_STRINGS" "Z" (.int cP)) (SF : Sta Z Z.heap "jdk/internal/util/Preconditions" "SIOOBE_FORMATTER" "Ljava/util/function/BiFunction;" fm) (SE : Sta Z Z.heap "java/util/Optional" "EMPTY" "Ljava/util/Optional;" (.ref em)) (Fe : Fld Z Z.heap em "java/util/Optional" "value" "Ljava/lang/Object;" .null) (Ee : Exa Z Z.heap em "java/util/Optional") (hP : ¬ cP = (0 : Int32)) (hfm : fm.category = 1) :
    Met1H consts_1 [] l Z x code maxLocals ret room_1 #[(.int p1), (.int p2), (.int p3), (.int p4), (.int p5)] h0 (Q_law Z p1 p2 p3 p4 p5 cP fm em h0) := by
  refine Met1H.of_body (Ls := #[.val (.int p1), .val (.int p2), .val (.int p3), .val (.int p4), .val (.int p5), .unset, .unset, .unset, .unset, .unset, .unset, .unset, .unset]) pf_0 (fun m => by first | (simp [entryFrame, mkF, argsToLocals, Value.category, maxLocals]; done) | rfl) ?_
  intro p e s m below meth c T0 C X0 e0 hH0 hsf0
  have Hr0 := CHr.refl hH0
  have N0 : Fr Z.heap.size [] := Fr.nil _
  have Si0 : Sin s s h0 := Sin.start s h0
  refine Go.iloadN (pc' := 1) C X0 at_0 rfl rfl ?_
  refine Go.ldcI (pc' := 3) C X0 at_1 (tw hw 0 rfl) rfl ?_
  refine Go.iand (pc' := 4) C X0 at_3 rfl ?_
  refine Go.iconst (z := (5 : Int32)) (pc' := 5) C X0 at_4 rfl rfl ?_
  refine Go.irem (pc' := 6) C X0 at_5 (by decide) rfl ?_
  rcases own_m5 p1 with hl | hl | hl | hl | hl
  · rw [hl]
    refine Go.istore (Ls' := #[.val (.int p1), .val (.int p2), .val (.int p3), .val (.int p4), .val (.int p5), .val (.int (0 : Int32)), .unset, .unset, .unset, .unset, .unset, .unset, .unset]) (pc' := 8) C X0 at_6 rfl rfl ?_
    refine Go.iloadN (pc' := 9) C X0 at_8 rfl rfl ?_
    refine Go.callS (y := mN31) (pc' := 12) C X0 (tw hw 1 rfl) (tw hw 2 rfl) (by decide) (rm_ch l Z a0 hw p2 h0 O0 ) (tw hw 4 rfl) (tw hw 3 rfl) e0 (argsL := [(.int p2)]) (rest := []) (W := 0) rfl rfl pd_26 rfl (Nat.le_of_eq rfl) rfl (by decide) (by decide) (by decide) (by decide) at_9 rfl ?_
    intro T101 v101 L101 X101 q101
    obtain ⟨r_101, rfl, rfl, e101, p101_0⟩ := q101
    have N101 := Fr.app N0 (Fr.nil _)
    refine Go.istore (Ls' := #[.val (.int p1), .val (.int p2), .val (.int p3), .val (.int p4), .val (.int p5), .val (.int (0 : Int32)), .val (.int r_101), .unset, .unset, .unset, .unset, .unset, .unset]) (pc' := 14) C X101 at_12 rfl rfl ?_
    refine Go.iloadN (pc' := 15) C X101 at_14 rfl rfl ?_
    refine Go.callS (y := mN31) (pc' := 18) C X101 (tw hw 1 rfl) (tw hw 2 rfl) (by decide) (rm_ch l Z a0 hw p3 h0 O0 ) (tw hw 4 rfl) (tw hw 3 rfl) e101 (argsL := [(.int p3)]) (rest := []) (W := 0) rfl rfl pd_26 rfl (Nat.le_of_eq rfl) rfl (by decide) (by decide) (by decide) (by decide) at_15 rfl ?_
    intro T102 v102 L102 X102 q102
    obtain ⟨r_102, rfl, rfl, e102, p102_0⟩ := q102
    have N102 := Fr.app N101 (Fr.nil _)
    refine Go.istore (Ls' := #[.val (.int p1), .val (.int p2), .val (.int p3), .val (.int p4), .val (.int p5), .val (.int (0 : Int32)), .val (.int r_101), .val (.int r_102), .unset, .unset, .unset, .unset, .unset]) (pc' := 20) C X102 at_18 rfl rfl ?_
    refine Go.iloadN (pc' := 21) C X102 at_20 rfl rfl ?_
    refine Go.callS (y := mN31) (pc' := 24) C X102 (tw hw 1 rfl) (tw hw 2 rfl) (by decide) (rm_ch l Z a0 hw p4 h0 O0 ) (tw hw 4 rfl) (tw hw 3 rfl) e102 (argsL := [(.int p4)]) (rest := []) (W := 0) rfl rfl pd_26 rfl (Nat.le_of_eq rfl) rfl (by decide) (by decide) (by decide) (by decide) at_21 rfl ?_
    intro T103 v103 L103 X103 q103
    obtain ⟨r_103, rfl, rfl, e103, p103_0⟩ := q103
    have N103 := Fr.app N102 (Fr.nil _)
    refine Go.istore (Ls' := #[.val (.int p1), .val (.int p2), .val (.int p3), .val (.int p4), .val (.int p5), .val (.int (0 : Int32)), .val (.int r_101), .val (.int r_102), .val (.int r_103), .unset, .unset, .unset, .unset]) (pc' := 26) C X103 at_24 rfl rfl ?_
    refine Go.iload (pc' := 28) C X103 at_26 rfl rfl ?_
    refine Go.callS (y := mN31) (pc' := 31) C X103 (tw hw 1 rfl) (tw hw 2 rfl) (by decide) (rm_ch l Z a0 hw p5 h0 O0 ) (tw hw 4 rfl) (tw hw 3 rfl) e103 (argsL := [(.int p5)]) (rest := []) (W := 0) rfl rfl pd_26 rfl (Nat.le_of_eq rfl) rfl (by decide) (by decide) (by decide) (by decide) at_28 rfl ?_
    intro T104 v104 L104 X104 q104
    obtain ⟨r_104, rfl, rfl, e104, p104_0⟩ := q104
    have N104 := Fr.app N103 (Fr.nil _)
    refine Go.istore (Ls' := #[.val (.int p1), .val (.int p2), .val (.int p3), .val (.int p4), .val (.int p5), .val (.int (0 : Int32)), .val (.int r_101), .val (.int r_102), .val (.int r_103), .val (.int r_104), .unset, .unset, .unset]) (pc' := 33) C X104 at_31 rfl rfl ?_
    obtain ⟨x0, hz0⟩ : ∃ z, z = r_101 := ⟨_, rfl⟩
    subst hz0
    have hx0 := p101_0
    obtain ⟨x1, hz1⟩ : ∃ z, z = r_102 := ⟨_, rfl⟩
    subst hz1
    have hx1 := p102_0
    obtain ⟨x2, hz2⟩ : ∃ z, z = r_103 := ⟨_, rfl⟩
    subst hz2
    have hx2 := p103_0
    obtain ⟨x3, hz3⟩ : ∃ z, z = r_104 := ⟨_, rfl⟩
    subst hz3
    have hx3 := p104_0
    refine Go.iload (pc' := 35) C X104 at_33 rfl rfl ?_
    refine Go.iload (pc' := 37) C X104 at_35 rfl rfl ?_
    refine Go.iload (pc' := 39) C X104 at_37 rfl rfl ?_
    refine Go.iload (pc' := 41) C X104 at_39 rfl rfl ?_
    refine Go.iconst (z := (0 : Int32)) (pc' := 42) C X104 at_41 rfl rfl ?_
    refine Go.iload (pc' := 44) C X104 at_42 rfl rfl ?_
    refine Go.callSH (y := mN33) (pc' := 47) C X104 Si0 (EWc hw) Hr0.1 (tw hw 5 rfl) (tw hw 6 rfl) (by decide) all0 (rm_st00 l Z a0 hw x0 x1 x2 x3 h0 O0 ) (tw hw 7 rfl) (tw hw 3 rfl) e104 (argsL := [(.int x0), (.int x1), (.int x2), (.int x3), (.int (0 : Int32)), (.int (0 : Int32))]) (rest := []) (W := 0) rfl rfl pd_27 rfl (Nat.le_of_eq rfl) rfl (by decide) (by decide) (by decide) (by decide) at_44 rfl ?_
    intro T105 v105 L105 sC105 C105 X105 Si105 hR105 q105
    obtain ⟨r_105, v_105, kv_105, rfl, N105q, K105, B105_0, P105_0, P105_1, P105_2, P105_3⟩ := q105
    have N105 := Fr.app N104 N105q
    have Hr106 := CHr.trans Hr0 hR105
    have n_r_105 : Z.heap.size ≤ r_105 := Nat.le_trans O0.1 B105_0
    have z_r_105 : h0.size ≤ r_105 := Nat.le_trans (Nat.le_refl _) B105_0
    refine Go.astore (Ls' := #[.val (.int p1), .val (.int p2), .val (.int p3), .val (.int p4), .val (.int p5), .val (.int (0 : Int32)), .val (.int x0), .val (.int x1), .val (.int x2), .val (.int x3), .val (.ref r_105), .unset, .unset]) (pc' := 49) C105 X105 at_47 rfl rfl rfl ?_
    have K115 : ∀ (T107 : State) (L107 : List Loc), Stand p l e room_1 sC105 m #[(.int p1), (.int p2), (.int p3), (.int p4), (.int p5)] below meth c T107 L107 6 12 → T107.heap = T105.heap → Fr Z.heap.size L107 → ∀ (la : Int32), ((la = (-1 : Int32))) → Go p e below (FnH Z consts_1 s h0 room_1.cells room_1.slots (Q_law Z p1 p2 p3 p4 p5 cP fm em h0)) T107 (mkF m 115 #[.val (.int p1), .val (.int p2), .val (.int p3), .val (.int p4), .val (.int p5), .val (.int (0 : Int32)), .val (.int x0), .val (.int x1), .val (.int x2), .val (.int x3), .val (.ref r_105), .val (.int la), .unset] []) := by
      intro T107 L107 X107 e107 N107 la hla
      subst hla
      refine Go.aload (pc' := 117) C105 X107 at_115 rfl rfl rfl ?_
      have O109 : Ext Z.heap T105.heap := (Ext.keep O0 K105 all0)
      refine Go.callS (y := mN30) (pc' := 120) C105 X107 (tw hw 30 rfl) (tw hw 31 rfl) (by decide) (rm_sc0m l Z a0 hw r_105 v_105 kv_105 cP em T105.heap O109 P105_0 P105_1 P105_2 P105_3 SC SE hP) (tw hw 33 rfl) (tw hw 32 rfl) e107 (argsL := [(.ref r_105)]) (rest := []) (W := 0) rfl rfl pd_28 rfl (Nat.le_of_eq rfl) rfl (by decide) (by decide) (by decide) (by decide) at_117 rfl ?_
      intro T108 v108 L108 X108 q108
      obtain ⟨rfl, rfl, e108⟩ := q108
      have N108 := Fr.app N107 (Fr.nil _)
      refine Go.astore (Ls' := #[.val (.int p1), .val (.int p2), .val (.int p3), .val (.int p4), .val (.int p5), .val (.int (0 : Int32)), .val (.int x0), .val (.int x1), .val (.int x2), .val (.int x3), .val (.ref r_105), .val (.int (-1 : Int32)), .val (.ref em)]) (pc' := 122) C105 X108 at_120 rfl rfl rfl ?_
      refine Go.iload (pc' := 124) C105 X108 at_122 rfl rfl ?_
      refine Go.ifNo (pc' := 127) C105 X108 at_124 ((if0 _ _).trans (tlt (x := (-1 : Int32)) (y := (0 : Int32)) (by decide)).2.1) rfl ?_
      refine Go.aload (pc' := 129) C105 X108 at_127 rfl rfl rfl ?_
      refine Go.callV (y := mN27) (z := mN27) (a := em) (pc' := 132) C105 X108 (tw hw 76 rfl) (tw hw 77 rfl) (notFace_at C105.2.1 (tw hw 79 rfl)) (tw hw 79 rfl) (tw hw 78 rfl) (Exa.ext O109 Ee) (by decide) (rm_op0 l Z a0 hw em T105.heap O109 Fe) (tw hw 80 rfl) (tw hw 73 rfl) e108 (argsL := []) (rest := []) (W := 0) rfl rfl pd_13 rfl (Nat.le_of_eq rfl) rfl (by decide) (by decide) (by decide) (by decide) at_129 rfl ?_
      intro T111 v111 L111 X111 q111
      obtain ⟨rfl, rfl, e111⟩ := q111
      have N111 := Fr.app N108 (Fr.nil _)
      refine Go.ifNo (pc' := 135) C105 X111 at_132 ((if0 _ _).trans (teq (x := (0 : Int32)) (y := (0 : Int32)) (by decide)).2) rfl ?_
      refine Go.iconst (z := (1 : Int32)) (pc' := 136) C105 X111 at_135 rfl rfl ?_
      refine Go.goto (pc' := 140) C105 X111 at_136 (by decide) (by decide) ?_
      have K113 : Keep h0 T105.heap [] := ((Keep.refl h0 []).trans K105 all0)
      exact Go.retNH C105 X111 (by rw [e111]; exact Si105) (EWc hw) (by rw [e111]; exact Hr106) rfl at_140 (by simp) (by rw [e111]; exact ⟨rfl, N111, K113⟩) (by decide) (by decide)
    refine Go.iconst (z := (-1 : Int32)) (pc' := 50) C105 X105 at_49 rfl rfl ?_
    refine Go.istore (Ls' := #[.val (.int p1), .val (.int p2), .val (.int p3), .val (.int p4), .val (.int p5), .val (.int (0 : Int32)), .val (.int x0), .val (.int x1), .val (.int x2), .val (.int x3), .val (.ref r_105), .val (.int (-1 : Int32)), .unset]) (pc' := 52) C105 X105 at_50 rfl rfl ?_
    refine Go.iload (pc' := 54) C105 X105 at_52 rfl rfl ?_
    refine Go.ifYes (pc' := 67) C105 X105 at_54 ((if0 _ _).trans (flt (x := (0 : Int32)) (y := (0 : Int32)) (by decide)).2.2.2) (by decide) (by decide) ?_
    refine Go.iload (pc' := 69) C105 X105 at_67 rfl rfl ?_
    refine Go.iconst (z := (1 : Int32)) (pc' := 70) C105 X105 at_69 rfl rfl ?_
    refine Go.icmpYes (pc' := 83) C105 X105 at_70 (flt (x := (1 : Int32)) (y := (0 : Int32)) (by decide)).2.2.2 (by decide) (by decide) ?_
    refine Go.iload (pc' := 85) C105 X105 at_83 rfl rfl ?_
    refine Go.iconst (z := (2 : Int32)) (pc' := 86) C105 X105 at_85 rfl rfl ?_
    refine Go.icmpYes (pc' := 99) C105 X105 at_86 (flt (x := (2 : Int32)) (y := (0 : Int32)) (by decide)).2.2.2 (by decide) (by decide) ?_
    refine Go.iload (pc' := 101) C105 X105 at_99 rfl rfl ?_
    refine Go.iconst (z := (3 : Int32)) (pc' := 102) C105 X105 at_101 rfl rfl ?_
    refine Go.icmpYes (pc' := 115) C105 X105 at_102 (flt (x := (3 : Int32)) (y := (0 : Int32)) (by decide)).2.2.2 (by decide) (by decide) ?_
    exact K115 _ _ X105 rfl N105 (-1 : Int32) rfl
  · rw [hl]
    refine Go.istore (Ls' := #[.val (.int p1), .val (.int p2), .val (.int p3), .val (.int p4), .val (.int p5), .val (.int (1 : Int32)), .unset, .unset, .unset, .unset, .unset, .unset, .unset]) (pc' := 8) C X0 at_6 rfl rfl ?_
    refine Go.iloadN (pc' := 9) C X0 at_8 rfl rfl ?_
    refine Go.callS (y := mN31) (pc' := 12) C X0 (tw hw 1 rfl) (tw hw 2 rfl) (by decide) (rm_ch l Z a0 hw p2 h0 O0 ) (tw hw 4 rfl) (tw hw 3 rfl) e0 (argsL := [(.int p2)]) (rest := []) (W := 0) rfl rfl pd_26 rfl (Nat.le_of_eq rfl) rfl (by decide) (by decide) (by decide) (by decide) at_9 rfl ?_
    intro T118 v118 L118 X118 q118
    obtain ⟨r_118, rfl, rfl, e118, p118_0⟩ := q118
    have N118 := Fr.app N0 (Fr.nil _)
    refine Go.istore (Ls' := #[.val (.int p1), .val (.int p2), .val (.int p3), .val (.int p4), .val (.int p5), .val (.int (1 : Int32)), .val (.int r_118), .unset, .unset, .unset, .unset, .unset, .unset]) (pc' := 14) C X118 at_12 rfl rfl ?_
    refine Go.iloadN (pc' := 15) C X118 at_14 rfl rfl ?_
    refine Go.callS (y := mN31) (pc' := 18) C X118 (tw hw 1 rfl) (tw hw 2 rfl) (by decide) (rm_ch l Z a0 hw p3 h0 O0 ) (tw hw 4 rfl) (tw hw 3 rfl) e118 (argsL := [(.int p3)]) (rest := []) (W := 0) rfl rfl pd_26 rfl (Nat.le_of_eq rfl) rfl (by decide) (by decide) (by decide) (by decide) at_15 rfl ?_
    intro T119 v119 L119 X119 q119
    obtain ⟨r_119, rfl, rfl, e119, p119_0⟩ := q119
    have N119 := Fr.app N118 (Fr.nil _)
    refine Go.istore (Ls' := #[.val (.int p1), .val (.int p2), .val (.int p3), .val (.int p4), .val (.int p5), .val (.int (1 : Int32)), .val (.int r_118), .val (.int r_119), .unset, .unset, .unset, .unset, .unset]) (pc' := 20) C X119 at_18 rfl rfl ?_
    refine Go.iloadN (pc' := 21) C X119 at_20 rfl rfl ?_
    refine Go.callS (y := mN31) (pc' := 24) C X119 (tw hw 1 rfl) (tw hw 2 rfl) (by decide) (rm_ch l Z a0 hw p4 h0 O0 ) (tw hw 4 rfl) (tw hw 3 rfl) e119 (argsL := [(.int p4)]) (rest := []) (W := 0) rfl rfl pd_26 rfl (Nat.le_of_eq rfl) rfl (by decide) (by decide) (by decide) (by decide) at_21 rfl ?_
    intro T120 v120 L120 X120 q120
    obtain ⟨r_120, rfl, rfl, e120, p120_0⟩ := q120
    have N120 := Fr.app N119 (Fr.nil _)
    refine Go.istore (Ls' := #[.val (.int p1), .val (.int p2), .val (.int p3), .val (.int p4), .val (.int p5), .val (.int (1 : Int32)), .val (.int r_118), .val (.int r_119), .val (.int r_120), .unset, .unset, .unset, .unset]) (pc' := 26) C X120 at_24 rfl rfl ?_
    refine Go.iload (pc' := 28) C X120 at_26 rfl rfl ?_
    refine Go.callS (y := mN31) (pc' := 31) C X120 (tw hw 1 rfl) (tw hw 2 rfl) (by decide) (rm_ch l Z a0 hw p5 h0 O0 ) (tw hw 4 rfl) (tw hw 3 rfl) e120 (argsL := [(.int p5)]) (rest := []) (W := 0) rfl rfl pd_26 rfl (Nat.le_of_eq rfl) rfl (by decide) (by decide) (by decide) (by decide) at_28 rfl ?_
    intro T121 v121 L121 X121 q121
    obtain ⟨r_121, rfl, rfl, e121, p121_0⟩ := q121
    have N121 := Fr.app N120 (Fr.nil _)
    refine Go.istore (Ls' := #[.val (.int p1), .val (.int p2), .val (.int p3), .val (.int p4), .val (.int p5), .val (.int (1 : Int32)), .val (.int r_118), .val (.int r_119), .val (.int r_120), .val (.int r_121), .unset, .unset, .unset]) (pc' := 33) C X121 at_31 rfl rfl ?_
    obtain ⟨x0, hz0⟩ : ∃ z, z = r_118 := ⟨_, rfl⟩
    subst hz0
    have hx0 := p118_0
    obtain ⟨x1, hz1⟩ : ∃ z, z = r_119 := ⟨_, rfl⟩
    subst hz1
    have hx1 := p119_0
    obtain ⟨x2, hz2⟩ : ∃ z, z = r_120 := ⟨_, rfl⟩
    subst hz2
    have hx2 := p120_0
    obtain ⟨x3, hz3⟩ : ∃ z, z = r_121 := ⟨_, rfl⟩
    subst hz3
    have hx3 := p121_0
    refine Go.iload (pc' := 35) C X121 at_33 rfl rfl ?_
    refine Go.iload (pc' := 37) C X121 at_35 rfl rfl ?_
    refine Go.iload (pc' := 39) C X121 at_37 rfl rfl ?_
    refine Go.iload (pc' := 41) C X121 at_39 rfl rfl ?_
    refine Go.iconst (z := (0 : Int32)) (pc' := 42) C X121 at_41 rfl rfl ?_
    refine Go.iload (pc' := 44) C X121 at_42 rfl rfl ?_
    refine Go.callS (y := mN33) (pc' := 47) C X121 (tw hw 5 rfl) (tw hw 6 rfl) (by decide) (rm_st01 l Z a0 hw x0 x1 x2 x3 cP h0 O0 SC hP hx0 hx1 hx2 hx3) (tw hw 7 rfl) (tw hw 3 rfl) e121 (argsL := [(.int x0), (.int x1), (.int x2), (.int x3), (.int (0 : Int32)), (.int (1 : Int32))]) (rest := []) (W := 0) rfl rfl pd_27 rfl (Nat.le_of_eq rfl) rfl (by decide) (by decide) (by decide) (by decide) at_44 rfl ?_
    intro T122 v122 L122 X122 q122
    obtain ⟨r_122, v_122, kv_122, rfl, N122q, K122, B122_0, B122_1, P122_0, P122_1, P122_2, P122_3⟩ := q122
    have N122 := Fr.app N121 N122q
    have Hr123 := CHr.trans Hr0 (CHr.keep K122 all0 Hr0.1)
    have n_r_122 : Z.heap.size ≤ r_122 := Nat.le_trans O0.1 B122_0
    have z_r_122 : h0.size ≤ r_122 := Nat.le_trans (Nat.le_refl _) B122_0
    have s_r_122 : Safe Z consts_1 s.vm T122.heap r_122 := Safe.keep K122 all0 Hr0.1 (Safe.new B122_0)
    have n_v_122 : Z.heap.size ≤ v_122 := Nat.le_trans O0.1 B122_1
    have z_v_122 : h0.size ≤ v_122 := Nat.le_trans (Nat.le_refl _) B122_1
    have s_v_122 : Safe Z consts_1 s.vm T122.heap v_122 := Safe.keep K122 all0 Hr0.1 (Safe.new B122_1)
    refine Go.astore (Ls' := #[.val (.int p1), .val (.int p2), .val (.int p3), .val (.int p4), .val (.int p5), .val (.int (1 : Int32)), .val (.int x0), .val (.int x1), .val (.int x2), .val (.int x3), .val (.ref r_122), .unset, .unset]) (pc' := 49) C X122 at_47 rfl rfl rfl ?_
    have K115 : ∀ (T124 : State) (L124 : List Loc), Stand p l e room_1 s m #[(.int p1), (.int p2), (.int p3), (.int p4), (.int p5)] below meth c T124 L124 3 9 → T124.heap = T122.heap → Fr Z.heap.size L124 → ∀ (la : Int32), ((la = (0 : Int32) ∧ x0 = (64 : Int32)) ∨ (la = (-1 : Int32) ∧ ¬ x0 = (64 : Int32))) → Go p e below (FnH Z consts_1 s h0 room_1.cells room_1.slots (Q_law Z p1 p2 p3 p4 p5 cP fm em h0)) T124 (mkF m 115 #[.val (.int p1), .val (.int p2), .val (.int p3), .val (.int p4), .val (.int p5), .val (.int (1 : Int32)), .val (.int x0), .val (.int x1), .val (.int x2), .val (.int x3), .val (.ref r_122), .val (.int la), .unset] []) := by
      intro T124 L124 X124 e124 N124 la hla
      rcases hla with ⟨rfl, qe0⟩ | ⟨rfl, qe0⟩
      · refine Go.aload (pc' := 117) C X124 at_115 rfl rfl rfl ?_
        have O126 : Ext Z.heap T122.heap := (Ext.keep O0 K122 all0)
        have Si127 : Sin s s T122.heap := Sin.mono Si0 (Nat.le_trans (Nat.le_refl _) K122.1)
        refine Go.callSH (y := mN30) (pc' := 120) C X124 Si127 (EWc hw) Hr123.1 (tw hw 30 rfl) (tw hw 31 rfl) (by decide) all0 (rm_sc10 l Z a0 hw r_122 v_122 kv_122 x0 cP fm T122.heap O126 P122_0 P122_1 P122_2 P122_3 SC SF hx0 qe0 hP hfm) (tw hw 33 rfl) (tw hw 32 rfl) e124 (argsL := [(.ref r_122)]) (rest := []) (W := 0) rfl rfl pd_28 rfl (Nat.le_of_eq rfl) rfl (by decide) (by decide) (by decide) (by decide) at_117 rfl ?_
        intro T125 v125 L125 sC125 C125 X125 Si125 hR125 q125
        obtain ⟨o_125, r_125, u_125, ku_125, rfl, N125q, K125, B125_0, P125_0, P125_1, P125_2, P125_3, P125_4, P125_5⟩ := q125
        have N125 := Fr.app N124 N125q
        have Hr128 := CHr.trans Hr123 hR125
        have n_o_125 : Z.heap.size ≤ o_125 := Nat.le_trans O126.1 B125_0
        have z_o_125 : h0.size ≤ o_125 := Nat.le_trans (Nat.le_trans (Nat.le_refl _) K122.1) B125_0
        refine Go.astore (Ls' := #[.val (.int p1), .val (.int p2), .val (.int p3), .val (.int p4), .val (.int p5), .val (.int (1 : Int32)), .val (.int x0), .val (.int x1), .val (.int x2), .val (.int x3), .val (.ref r_122), .val (.int (0 : Int32)), .val (.ref o_125)]) (pc' := 122) C125 X125 at_120 rfl rfl rfl ?_
        refine Go.iload (pc' := 124) C125 X125 at_122 rfl rfl ?_
        refine Go.ifYes (pc' := 141) C125 X125 at_124 ((if0 _ _).trans (flt (x := (0 : Int32)) (y := (0 : Int32)) (by decide)).2.1) (by decide) (by decide) ?_
        refine Go.aload (pc' := 143) C125 X125 at_141 rfl rfl rfl ?_
        have O131 : Ext Z.heap T125.heap := (Ext.keep O126 K125 all0)
        refine Go.callV (y := mN27) (z := mN27) (a := o_125) (pc' := 146) C125 X125 (tw hw 76 rfl) (tw hw 77 rfl) (notFace_at C125.2.1 (tw hw 79 rfl)) (tw hw 79 rfl) (tw hw 78 rfl) P125_0 (by decide) (rm_op1 l Z a0 hw o_125 r_125 T125.heap O131 P125_1) (tw hw 80 rfl) (tw hw 73 rfl) rfl (argsL := []) (rest := []) (W := 0) rfl rfl pd_13 rfl (Nat.le_of_eq rfl) rfl (by decide) (by decide) (by decide) (by decide) at_143 rfl ?_
        intro T130 v130 L130 X130 q130
        obtain ⟨rfl, rfl, e130⟩ := q130
        have N130 := Fr.app N125 (Fr.nil _)
        refine Go.ifYes (pc' := 151) C125 X130 at_146 ((if0 _ _).trans (feq (x := (1 : Int32)) (y := (0 : Int32)) (by decide)).2) (by decide) (by decide) ?_
        refine Go.aload (pc' := 153) C125 X130 at_151 rfl rfl rfl ?_
        refine Go.callV (y := mN26) (z := mN26) (a := o_125) (pc' := 156) C125 X130 (tw hw 132 rfl) (tw hw 133 rfl) (notFace_at C125.2.1 (tw hw 135 rfl)) (tw hw 135 rfl) (tw hw 134 rfl) P125_0 (by decide) (rm_oge l Z a0 hw o_125 r_125 T125.heap O131 P125_1) (tw hw 136 rfl) (tw hw 73 rfl) e130 (argsL := []) (rest := []) (W := 0) rfl rfl pd_29 rfl (Nat.le_of_eq rfl) rfl (by decide) (by decide) (by decide) (by decide) at_153 rfl ?_
        intro T133 v133 L133 X133 q133
        obtain ⟨rfl, rfl, e133⟩ := q133
        have N133 := Fr.app N130 (Fr.nil _)
        refine Go.castY (pc' := 159) C125 X133 (tw hw 9 rfl) e133 (Ins.self P125_2) at_156 rfl ?_
        intro T134 X134 e134
        refine Go.iload (pc' := 161) C125 X134 at_159 rfl rfl ?_
        refine Go.iload (pc' := 163) C125 X134 at_161 rfl rfl ?_
        refine Go.iload (pc' := 165) C125 X134 at_163 rfl rfl ?_
        refine Go.iload (pc' := 167) C125 X134 at_165 rfl rfl ?_
        refine Go.iload (pc' := 169) C125 X134 at_167 rfl rfl ?_
        refine Go.iconst (z := (1 : Int32)) (pc' := 170) C125 X134 at_169 rfl rfl ?_
        refine Go.iadd (pc' := 171) C125 X134 at_170 rfl ?_
        rw [show ((0 : Int32) + (1 : Int32)) = (1 : Int32) from by decide]
        refine Go.iload (pc' := 173) C125 X134 at_171 rfl rfl ?_
        refine Go.callSH (y := mN33) (pc' := 176) C125 X134 Si125 (EWc hw) Hr128.1 (tw hw 5 rfl) (tw hw 6 rfl) (by decide) all0 (rm_st11 l Z a0 hw x0 x1 x2 x3 T125.heap O131 ) (tw hw 7 rfl) (tw hw 3 rfl) e134 (argsL := [(.int x0), (.int x1), (.int x2), (.int x3), (.int (1 : Int32)), (.int (1 : Int32))]) (rest := [(.ref r_125)]) (W := 1) rfl rfl pd_27 rfl (Nat.le_of_eq rfl) rfl (by decide) (by decide) (by decide) (by decide) at_173 rfl ?_
        intro T135 v135 L135 sC135 C135 X135 Si135 hR135 q135
        obtain ⟨r_135, v_135, kv_135, rfl, N135q, K135, B135_0, P135_0, P135_1, P135_2, P135_3⟩ := q135
        have N135 := Fr.app N133 N135q
        have Hr136 := CHr.trans Hr128 hR135
        have n_r_135 : Z.heap.size ≤ r_135 := Nat.le_trans O131.1 B135_0
        have z_r_135 : h0.size ≤ r_135 := Nat.le_trans (Nat.le_trans (Nat.le_trans (Nat.le_refl _) K122.1) K125.1) B135_0
        have c138 : Exa Z T135.heap r_125 "java/lang/String" := (Exa.keep P125_2 K135)
        have c139 : Fld Z T135.heap r_125 "java/lang/String" "value" "[B" (.ref u_125) := (Fld.keep P125_3 K135 nin0)
        have c140 : Fld Z T135.heap r_125 "java/lang/String" "coder" "B" (.int (0 : Int32)) := (Fld.keep P125_4 K135 nin0)
        have c141 : AL Z T135.heap u_125 ku_125 .byte (by8 []) := (AL.keep P125_5 K135 nin0)
        have ne142 : r_125 ≠ r_135 := Nat.ne_of_lt (Nat.lt_of_lt_of_le P125_2.lt (Nat.le_trans (Nat.le_refl _) B135_0))
        have O143 : Ext Z.heap T135.heap := (Ext.keep O131 K135 all0)
        refine Go.callV (y := mN6) (z := mN6) (a := r_125) (pc' := 179) C135 X135 (tw hw 137 rfl) (tw hw 138 rfl) (notFace_at C135.2.1 (tw hw 140 rfl)) (tw hw 140 rfl) (tw hw 139 rfl) c138 (by decide) (rm_eqS l Z a0 hw r_125 r_135 u_125 v_135 ku_125 kv_135 [] [] cP T135.heap O143 SC c138 c139 c140 c141 P135_0 P135_1 P135_2 P135_3 ne142 hP (show (0 : Nat) < 2 ^ 31 from by decide) (show (0 : Nat) < 2 ^ 31 from by decide)) (tw hw 141 rfl) (tw hw 11 rfl) rfl (argsL := [(.ref r_135)]) (rest := []) (W := 0) rfl rfl pd_30 rfl (Nat.le_of_eq rfl) rfl (by decide) (by decide) (by decide) (by decide) at_176 rfl ?_
        intro T137 v137 L137 X137 q137
        obtain ⟨rfl, rfl, e137⟩ := q137
        have N137 := Fr.app N135 (Fr.nil _)
        have K144 : Keep h0 T135.heap [] := ((((Keep.refl h0 []).trans K122 all0).trans K125 all0).trans K135 all0)
        exact Go.retNH C135 X137 (by rw [e137]; exact Si135) (EWc hw) (by rw [e137]; exact Hr136) rfl at_179 (by simp) (by rw [e137]; exact ⟨(by rw [if_pos rfl]; rfl), N137, K144⟩) (by decide) (by decide)
      · refine Go.aload (pc' := 117) C X124 at_115 rfl rfl rfl ?_
        have O146 : Ext Z.heap T122.heap := (Ext.keep O0 K122 all0)
        refine Go.callS (y := mN30) (pc' := 120) C X124 (tw hw 30 rfl) (tw hw 31 rfl) (by decide) (rm_sc1m l Z a0 hw r_122 v_122 kv_122 x0 cP em T122.heap O146 P122_0 P122_1 P122_2 P122_3 SC SE hx0 qe0 hP) (tw hw 33 rfl) (tw hw 32 rfl) e124 (argsL := [(.ref r_122)]) (rest := []) (W := 0) rfl rfl pd_28 rfl (Nat.le_of_eq rfl) rfl (by decide) (by decide) (by decide) (by decide) at_117 rfl ?_
        intro T145 v145 L145 X145 q145
        obtain ⟨rfl, rfl, e145⟩ := q145
        have N145 := Fr.app N124 (Fr.nil _)
        refine Go.astore (Ls' := #[.val (.int p1), .val (.int p2), .val (.int p3), .val (.int p4), .val (.int p5), .val (.int (1 : Int32)), .val (.int x0), .val (.int x1), .val (.int x2), .val (.int x3), .val (.ref r_122), .val (.int (-1 : Int32)), .val (.ref em)]) (pc' := 122) C X145 at_120 rfl rfl rfl ?_
        refine Go.iload (pc' := 124) C X145 at_122 rfl rfl ?_
        refine Go.ifNo (pc' := 127) C X145 at_124 ((if0 _ _).trans (tlt (x := (-1 : Int32)) (y := (0 : Int32)) (by decide)).2.1) rfl ?_
        refine Go.aload (pc' := 129) C X145 at_127 rfl rfl rfl ?_
        refine Go.callV (y := mN27) (z := mN27) (a := em) (pc' := 132) C X145 (tw hw 76 rfl) (tw hw 77 rfl) (notFace_at C.2.1 (tw hw 79 rfl)) (tw hw 79 rfl) (tw hw 78 rfl) (Exa.ext O146 Ee) (by decide) (rm_op0 l Z a0 hw em T122.heap O146 Fe) (tw hw 80 rfl) (tw hw 73 rfl) e145 (argsL := []) (rest := []) (W := 0) rfl rfl pd_13 rfl (Nat.le_of_eq rfl) rfl (by decide) (by decide) (by decide) (by decide) at_129 rfl ?_
        intro T148 v148 L148 X148 q148
        obtain ⟨rfl, rfl, e148⟩ := q148
        have N148 := Fr.app N145 (Fr.nil _)
        refine Go.ifNo (pc' := 135) C X148 at_132 ((if0 _ _).trans (teq (x := (0 : Int32)) (y := (0 : Int32)) (by decide)).2) rfl ?_
        refine Go.iconst (z := (1 : Int32)) (pc' := 136) C X148 at_135 rfl rfl ?_
        refine Go.goto (pc' := 140) C X148 at_136 (by decide) (by decide) ?_
        have K150 : Keep h0 T122.heap [] := ((Keep.refl h0 []).trans K122 all0)
        have Si151 : Sin s s T122.heap := Sin.mono Si0 (Nat.le_trans (Nat.le_refl _) K122.1)
        exact Go.retNH C X148 (by rw [e148]; exact Si151) (EWc hw) (by rw [e148]; exact Hr123) rfl at_140 (by simp) (by rw [e148]; exact ⟨rfl, N148, K150⟩) (by decide) (by decide)
    refine Go.iconst (z := (-1 : Int32)) (pc' := 50) C X122 at_49 rfl rfl ?_
    refine Go.istore (Ls' := #[.val (.int p1), .val (.int p2), .val (.int p3), .val (.int p4), .val (.int p5), .val (.int (1 : Int32)), .val (.int x0), .val (.int x1), .val (.int x2), .val (.int x3), .val (.ref r_122), .val (.int (-1 : Int32)), .unset]) (pc' := 52) C X122 at_50 rfl rfl ?_
    refine Go.iload (pc' := 54) C X122 at_52 rfl rfl ?_
    refine Go.ifNo (pc' := 57) C X122 at_54 ((if0 _ _).trans (tlt (x := (0 : Int32)) (y := (1 : Int32)) (by decide)).2.2.2) rfl ?_
    refine Go.iload (pc' := 59) C X122 at_57 rfl rfl ?_
    refine Go.bipush (z := (64 : Int32)) (pc' := 61) C X122 at_59 rfl rfl ?_
    by_cases hc61_153 : x0 = (64 : Int32)
    · refine Go.icmpNo (pc' := 64) C X122 at_61 (teq (x := x0) (y := (64 : Int32)) hc61_153).2 rfl ?_
      refine Go.iconst (z := (0 : Int32)) (pc' := 65) C X122 at_64 rfl rfl ?_
      refine Go.istore (Ls' := #[.val (.int p1), .val (.int p2), .val (.int p3), .val (.int p4), .val (.int p5), .val (.int (1 : Int32)), .val (.int x0), .val (.int x1), .val (.int x2), .val (.int x3), .val (.ref r_122), .val (.int (0 : Int32)), .unset]) (pc' := 67) C X122 at_65 rfl rfl ?_
      refine Go.iload (pc' := 69) C X122 at_67 rfl rfl ?_
      refine Go.iconst (z := (1 : Int32)) (pc' := 70) C X122 at_69 rfl rfl ?_
      refine Go.icmpYes (pc' := 83) C X122 at_70 (flt (x := (1 : Int32)) (y := (1 : Int32)) (by decide)).2.2.2 (by decide) (by decide) ?_
      refine Go.iload (pc' := 85) C X122 at_83 rfl rfl ?_
      refine Go.iconst (z := (2 : Int32)) (pc' := 86) C X122 at_85 rfl rfl ?_
      refine Go.icmpYes (pc' := 99) C X122 at_86 (flt (x := (2 : Int32)) (y := (1 : Int32)) (by decide)).2.2.2 (by decide) (by decide) ?_
      refine Go.iload (pc' := 101) C X122 at_99 rfl rfl ?_
      refine Go.iconst (z := (3 : Int32)) (pc' := 102) C X122 at_101 rfl rfl ?_
      refine Go.icmpYes (pc' := 115) C X122 at_102 (flt (x := (3 : Int32)) (y := (1 : Int32)) (by decide)).2.2.2 (by decide) (by decide) ?_
      exact K115 _ _ X122 rfl N122 (0 : Int32) (Or.inl ⟨rfl, hc61_153⟩)
    · refine Go.icmpYes (pc' := 67) C X122 at_61 (feq (x := x0) (y := (64 : Int32)) hc61_153).2 (by decide) (by decide) ?_
      refine Go.iload (pc' := 69) C X122 at_67 rfl rfl ?_
      refine Go.iconst (z := (1 : Int32)) (pc' := 70) C X122 at_69 rfl rfl ?_
      refine Go.icmpYes (pc' := 83) C X122 at_70 (flt (x := (1 : Int32)) (y := (1 : Int32)) (by decide)).2.2.2 (by decide) (by decide) ?_
      refine Go.iload (pc' := 85) C X122 at_83 rfl rfl ?_
      refine Go.iconst (z := (2 : Int32)) (pc' := 86) C X122 at_85 rfl rfl ?_
      refine Go.icmpYes (pc' := 99) C X122 at_86 (flt (x := (2 : Int32)) (y := (1 : Int32)) (by decide)).2.2.2 (by decide) (by decide) ?_
      refine Go.iload (pc' := 101) C X122 at_99 rfl rfl ?_
      refine Go.iconst (z := (3 : Int32)) (pc' := 102) C X122 at_101 rfl rfl ?_
      refine Go.icmpYes (pc' := 115) C X122 at_102 (flt (x := (3 : Int32)) (y := (1 : Int32)) (by decide)).2.2.2 (by decide) (by decide) ?_
      exact K115 _ _ X122 rfl N122 (-1 : Int32) (Or.inr ⟨rfl, hc61_153⟩)
  · rw [hl]
    refine Go.istore (Ls' := #[.val (.int p1), .val (.int p2), .val (.int p3), .val (.int p4), .val (.int p5), .val (.int (2 : Int32)), .unset, .unset, .unset, .unset, .unset, .unset, .unset]) (pc' := 8) C X0 at_6 rfl rfl ?_
    refine Go.iloadN (pc' := 9) C X0 at_8 rfl rfl ?_
    refine Go.callS (y := mN31) (pc' := 12) C X0 (tw hw 1 rfl) (tw hw 2 rfl) (by decide) (rm_ch l Z a0 hw p2 h0 O0 ) (tw hw 4 rfl) (tw hw 3 rfl) e0 (argsL := [(.int p2)]) (rest := []) (W := 0) rfl rfl pd_26 rfl (Nat.le_of_eq rfl) rfl (by decide) (by decide) (by decide) (by decide) at_9 rfl ?_
    intro T160 v160 L160 X160 q160
    obtain ⟨r_160, rfl, rfl, e160, p160_0⟩ := q160
    have N160 := Fr.app N0 (Fr.nil _)
    refine Go.istore (Ls' := #[.val (.int p1), .val (.int p2), .val (.int p3), .val (.int p4), .val (.int p5), .val (.int (2 : Int32)), .val (.int r_160), .unset, .unset, .unset, .unset, .unset, .unset]) (pc' := 14) C X160 at_12 rfl rfl ?_
    refine Go.iloadN (pc' := 15) C X160 at_14 rfl rfl ?_
    refine Go.callS (y := mN31) (pc' := 18) C X160 (tw hw 1 rfl) (tw hw 2 rfl) (by decide) (rm_ch l Z a0 hw p3 h0 O0 ) (tw hw 4 rfl) (tw hw 3 rfl) e160 (argsL := [(.int p3)]) (rest := []) (W := 0) rfl rfl pd_26 rfl (Nat.le_of_eq rfl) rfl (by decide) (by decide) (by decide) (by decide) at_15 rfl ?_
    intro T161 v161 L161 X161 q161
    obtain ⟨r_161, rfl, rfl, e161, p161_0⟩ := q161
    have N161 := Fr.app N160 (Fr.nil _)
    refine Go.istore (Ls' := #[.val (.int p1), .val (.int p2), .val (.int p3), .val (.int p4), .val (.int p5), .val (.int (2 : Int32)), .val (.int r_160), .val (.int r_161), .unset, .unset, .unset, .unset, .unset]) (pc' := 20) C X161 at_18 rfl rfl ?_
    refine Go.iloadN (pc' := 21) C X161 at_20 rfl rfl ?_
    refine Go.callS (y := mN31) (pc' := 24) C X161 (tw hw 1 rfl) (tw hw 2 rfl) (by decide) (rm_ch l Z a0 hw p4 h0 O0 ) (tw hw 4 rfl) (tw hw 3 rfl) e161 (argsL := [(.int p4)]) (rest := []) (W := 0) rfl rfl pd_26 rfl (Nat.le_of_eq rfl) rfl (by decide) (by decide) (by decide) (by decide) at_21 rfl ?_
    intro T162 v162 L162 X162 q162
    obtain ⟨r_162, rfl, rfl, e162, p162_0⟩ := q162
    have N162 := Fr.app N161 (Fr.nil _)
    refine Go.istore (Ls' := #[.val (.int p1), .val (.int p2), .val (.int p3), .val (.int p4), .val (.int p5), .val (.int (2 : Int32)), .val (.int r_160), .val (.int r_161), .val (.int r_162), .unset, .unset, .unset, .unset]) (pc' := 26) C X162 at_24 rfl rfl ?_
    refine Go.iload (pc' := 28) C X162 at_26 rfl rfl ?_
    refine Go.callS (y := mN31) (pc' := 31) C X162 (tw hw 1 rfl) (tw hw 2 rfl) (by decide) (rm_ch l Z a0 hw p5 h0 O0 ) (tw hw 4 rfl) (tw hw 3 rfl) e162 (argsL := [(.int p5)]) (rest := []) (W := 0) rfl rfl pd_26 rfl (Nat.le_of_eq rfl) rfl (by decide) (by decide) (by decide) (by decide) at_28 rfl ?_
    intro T163 v163 L163 X163 q163
    obtain ⟨r_163, rfl, rfl, e163, p163_0⟩ := q163
    have N163 := Fr.app N162 (Fr.nil _)
    refine Go.istore (Ls' := #[.val (.int p1), .val (.int p2), .val (.int p3), .val (.int p4), .val (.int p5), .val (.int (2 : Int32)), .val (.int r_160), .val (.int r_161), .val (.int r_162), .val (.int r_163), .unset, .unset, .unset]) (pc' := 33) C X163 at_31 rfl rfl ?_
    obtain ⟨x0, hz0⟩ : ∃ z, z = r_160 := ⟨_, rfl⟩
    subst hz0
    have hx0 := p160_0
    obtain ⟨x1, hz1⟩ : ∃ z, z = r_161 := ⟨_, rfl⟩
    subst hz1
    have hx1 := p161_0
    obtain ⟨x2, hz2⟩ : ∃ z, z = r_162 := ⟨_, rfl⟩
    subst hz2
    have hx2 := p162_0
    obtain ⟨x3, hz3⟩ : ∃ z, z = r_163 := ⟨_, rfl⟩
    subst hz3
    have hx3 := p163_0
    refine Go.iload (pc' := 35) C X163 at_33 rfl rfl ?_
    refine Go.iload (pc' := 37) C X163 at_35 rfl rfl ?_
    refine Go.iload (pc' := 39) C X163 at_37 rfl rfl ?_
    refine Go.iload (pc' := 41) C X163 at_39 rfl rfl ?_
    refine Go.iconst (z := (0 : Int32)) (pc' := 42) C X163 at_41 rfl rfl ?_
    refine Go.iload (pc' := 44) C X163 at_42 rfl rfl ?_
    refine Go.callS (y := mN33) (pc' := 47) C X163 (tw hw 5 rfl) (tw hw 6 rfl) (by decide) (rm_st02 l Z a0 hw x0 x1 x2 x3 cP h0 O0 SC hP hx0 hx1 hx2 hx3) (tw hw 7 rfl) (tw hw 3 rfl) e163 (argsL := [(.int x0), (.int x1), (.int x2), (.int x3), (.int (0 : Int32)), (.int (2 : Int32))]) (rest := []) (W := 0) rfl rfl pd_27 rfl (Nat.le_of_eq rfl) rfl (by decide) (by decide) (by decide) (by decide) at_44 rfl ?_
    intro T164 v164 L164 X164 q164
    obtain ⟨r_164, v_164, kv_164, rfl, N164q, K164, B164_0, B164_1, P164_0, P164_1, P164_2, P164_3⟩ := q164
    have N164 := Fr.app N163 N164q
    have Hr165 := CHr.trans Hr0 (CHr.keep K164 all0 Hr0.1)
    have n_r_164 : Z.heap.size ≤ r_164 := Nat.le_trans O0.1 B164_0
    have z_r_164 : h0.size ≤ r_164 := Nat.le_trans (Nat.le_refl _) B164_0
    have s_r_164 : Safe Z consts_1 s.vm T164.heap r_164 := Safe.keep K164 all0 Hr0.1 (Safe.new B164_0)
    have n_v_164 : Z.heap.size ≤ v_164 := Nat.le_trans O0.1 B164_1
    have z_v_164 : h0.size ≤ v_164 := Nat.le_trans (Nat.le_refl _) B164_1
    have s_v_164 : Safe Z consts_1 s.vm T164.heap v_164 := Safe.keep K164 all0 Hr0.1 (Safe.new B164_1)
    refine Go.astore (Ls' := #[.val (.int p1), .val (.int p2), .val (.int p3), .val (.int p4), .val (.int p5), .val (.int (2 : Int32)), .val (.int x0), .val (.int x1), .val (.int x2), .val (.int x3), .val (.ref r_164), .unset, .unset]) (pc' := 49) C X164 at_47 rfl rfl rfl ?_
    have K115 : ∀ (T166 : State) (L166 : List Loc), Stand p l e room_1 s m #[(.int p1), (.int p2), (.int p3), (.int p4), (.int p5)] below meth c T166 L166 3 10 → T166.heap = T164.heap → Fr Z.heap.size L166 → ∀ (la : Int32), ((la = (1 : Int32) ∧ x1 = (64 : Int32)) ∨ (la = (0 : Int32) ∧ x0 = (64 : Int32) ∧ ¬ x1 = (64 : Int32)) ∨ (la = (-1 : Int32) ∧ ¬ x0 = (64 : Int32) ∧ ¬ x1 = (64 : Int32))) → Go p e below (FnH Z consts_1 s h0 room_1.cells room_1.slots (Q_law Z p1 p2 p3 p4 p5 cP fm em h0)) T166 (mkF m 115 #[.val (.int p1), .val (.int p2), .val (.int p3), .val (.int p4), .val (.int p5), .val (.int (2 : Int32)), .val (.int x0), .val (.int x1), .val (.int x2), .val (.int x3), .val (.ref r_164), .val (.int la), .unset] []) := by
      intro T166 L166 X166 e166 N166 la hla
      rcases hla with ⟨rfl, qe1⟩ | ⟨rfl, qe0, qe1⟩ | ⟨rfl, qe0, qe1⟩
      · refine Go.aload (pc' := 117) C X166 at_115 rfl rfl rfl ?_
        have O168 : Ext Z.heap T164.heap := (Ext.keep O0 K164 all0)
        have Si169 : Sin s s T164.heap := Sin.mono Si0 (Nat.le_trans (Nat.le_refl _) K164.1)
        refine Go.callSH (y := mN30) (pc' := 120) C X166 Si169 (EWc hw) Hr165.1 (tw hw 30 rfl) (tw hw 31 rfl) (by decide) all0 (rm_sc21 l Z a0 hw r_164 v_164 kv_164 x0 x1 cP fm T164.heap O168 P164_0 P164_1 P164_2 P164_3 SC SF hx0 hx1 qe1 hP hfm) (tw hw 33 rfl) (tw hw 32 rfl) e166 (argsL := [(.ref r_164)]) (rest := []) (W := 0) rfl rfl pd_28 rfl (Nat.le_of_eq rfl) rfl (by decide) (by decide) (by decide) (by decide) at_117 rfl ?_
        intro T167 v167 L167 sC167 C167 X167 Si167 hR167 q167
        obtain ⟨o_167, r_167, u_167, ku_167, rfl, N167q, K167, B167_0, P167_0, P167_1, P167_2, P167_3, P167_4, P167_5⟩ := q167
        have N167 := Fr.app N166 N167q
        have Hr170 := CHr.trans Hr165 hR167
        have n_o_167 : Z.heap.size ≤ o_167 := Nat.le_trans O168.1 B167_0
        have z_o_167 : h0.size ≤ o_167 := Nat.le_trans (Nat.le_trans (Nat.le_refl _) K164.1) B167_0
        refine Go.astore (Ls' := #[.val (.int p1), .val (.int p2), .val (.int p3), .val (.int p4), .val (.int p5), .val (.int (2 : Int32)), .val (.int x0), .val (.int x1), .val (.int x2), .val (.int x3), .val (.ref r_164), .val (.int (1 : Int32)), .val (.ref o_167)]) (pc' := 122) C167 X167 at_120 rfl rfl rfl ?_
        refine Go.iload (pc' := 124) C167 X167 at_122 rfl rfl ?_
        refine Go.ifYes (pc' := 141) C167 X167 at_124 ((if0 _ _).trans (flt (x := (1 : Int32)) (y := (0 : Int32)) (by decide)).2.1) (by decide) (by decide) ?_
        refine Go.aload (pc' := 143) C167 X167 at_141 rfl rfl rfl ?_
        have O173 : Ext Z.heap T167.heap := (Ext.keep O168 K167 all0)
        refine Go.callV (y := mN27) (z := mN27) (a := o_167) (pc' := 146) C167 X167 (tw hw 76 rfl) (tw hw 77 rfl) (notFace_at C167.2.1 (tw hw 79 rfl)) (tw hw 79 rfl) (tw hw 78 rfl) P167_0 (by decide) (rm_op1 l Z a0 hw o_167 r_167 T167.heap O173 P167_1) (tw hw 80 rfl) (tw hw 73 rfl) rfl (argsL := []) (rest := []) (W := 0) rfl rfl pd_13 rfl (Nat.le_of_eq rfl) rfl (by decide) (by decide) (by decide) (by decide) at_143 rfl ?_
        intro T172 v172 L172 X172 q172
        obtain ⟨rfl, rfl, e172⟩ := q172
        have N172 := Fr.app N167 (Fr.nil _)
        refine Go.ifYes (pc' := 151) C167 X172 at_146 ((if0 _ _).trans (feq (x := (1 : Int32)) (y := (0 : Int32)) (by decide)).2) (by decide) (by decide) ?_
        refine Go.aload (pc' := 153) C167 X172 at_151 rfl rfl rfl ?_
        refine Go.callV (y := mN26) (z := mN26) (a := o_167) (pc' := 156) C167 X172 (tw hw 132 rfl) (tw hw 133 rfl) (notFace_at C167.2.1 (tw hw 135 rfl)) (tw hw 135 rfl) (tw hw 134 rfl) P167_0 (by decide) (rm_oge l Z a0 hw o_167 r_167 T167.heap O173 P167_1) (tw hw 136 rfl) (tw hw 73 rfl) e172 (argsL := []) (rest := []) (W := 0) rfl rfl pd_29 rfl (Nat.le_of_eq rfl) rfl (by decide) (by decide) (by decide) (by decide) at_153 rfl ?_
        intro T175 v175 L175 X175 q175
        obtain ⟨rfl, rfl, e175⟩ := q175
        have N175 := Fr.app N172 (Fr.nil _)
        refine Go.castY (pc' := 159) C167 X175 (tw hw 9 rfl) e175 (Ins.self P167_2) at_156 rfl ?_
        intro T176 X176 e176
        refine Go.iload (pc' := 161) C167 X176 at_159 rfl rfl ?_
        refine Go.iload (pc' := 163) C167 X176 at_161 rfl rfl ?_
        refine Go.iload (pc' := 165) C167 X176 at_163 rfl rfl ?_
        refine Go.iload (pc' := 167) C167 X176 at_165 rfl rfl ?_
        refine Go.iload (pc' := 169) C167 X176 at_167 rfl rfl ?_
        refine Go.iconst (z := (1 : Int32)) (pc' := 170) C167 X176 at_169 rfl rfl ?_
        refine Go.iadd (pc' := 171) C167 X176 at_170 rfl ?_
        rw [show ((1 : Int32) + (1 : Int32)) = (2 : Int32) from by decide]
        refine Go.iload (pc' := 173) C167 X176 at_171 rfl rfl ?_
        refine Go.callSH (y := mN33) (pc' := 176) C167 X176 Si167 (EWc hw) Hr170.1 (tw hw 5 rfl) (tw hw 6 rfl) (by decide) all0 (rm_st22 l Z a0 hw x0 x1 x2 x3 T167.heap O173 ) (tw hw 7 rfl) (tw hw 3 rfl) e176 (argsL := [(.int x0), (.int x1), (.int x2), (.int x3), (.int (2 : Int32)), (.int (2 : Int32))]) (rest := [(.ref r_167)]) (W := 1) rfl rfl pd_27 rfl (Nat.le_of_eq rfl) rfl (by decide) (by decide) (by decide) (by decide) at_173 rfl ?_
        intro T177 v177 L177 sC177 C177 X177 Si177 hR177 q177
        obtain ⟨r_177, v_177, kv_177, rfl, N177q, K177, B177_0, P177_0, P177_1, P177_2, P177_3⟩ := q177
        have N177 := Fr.app N175 N177q
        have Hr178 := CHr.trans Hr170 hR177
        have n_r_177 : Z.heap.size ≤ r_177 := Nat.le_trans O173.1 B177_0
        have z_r_177 : h0.size ≤ r_177 := Nat.le_trans (Nat.le_trans (Nat.le_trans (Nat.le_refl _) K164.1) K167.1) B177_0
        have c180 : Exa Z T177.heap r_167 "java/lang/String" := (Exa.keep P167_2 K177)
        have c181 : Fld Z T177.heap r_167 "java/lang/String" "value" "[B" (.ref u_167) := (Fld.keep P167_3 K177 nin0)
        have c182 : Fld Z T177.heap r_167 "java/lang/String" "coder" "B" (.int (0 : Int32)) := (Fld.keep P167_4 K177 nin0)
        have c183 : AL Z T177.heap u_167 ku_167 .byte (by8 []) := (AL.keep P167_5 K177 nin0)
        have ne184 : r_167 ≠ r_177 := Nat.ne_of_lt (Nat.lt_of_lt_of_le P167_2.lt (Nat.le_trans (Nat.le_refl _) B177_0))
        have O185 : Ext Z.heap T177.heap := (Ext.keep O173 K177 all0)
        refine Go.callV (y := mN6) (z := mN6) (a := r_167) (pc' := 179) C177 X177 (tw hw 137 rfl) (tw hw 138 rfl) (notFace_at C177.2.1 (tw hw 140 rfl)) (tw hw 140 rfl) (tw hw 139 rfl) c180 (by decide) (rm_eqS l Z a0 hw r_167 r_177 u_167 v_177 ku_167 kv_177 [] [] cP T177.heap O185 SC c180 c181 c182 c183 P177_0 P177_1 P177_2 P177_3 ne184 hP (show (0 : Nat) < 2 ^ 31 from by decide) (show (0 : Nat) < 2 ^ 31 from by decide)) (tw hw 141 rfl) (tw hw 11 rfl) rfl (argsL := [(.ref r_177)]) (rest := []) (W := 0) rfl rfl pd_30 rfl (Nat.le_of_eq rfl) rfl (by decide) (by decide) (by decide) (by decide) at_176 rfl ?_
        intro T179 v179 L179 X179 q179
        obtain ⟨rfl, rfl, e179⟩ := q179
        have N179 := Fr.app N177 (Fr.nil _)
        have K186 : Keep h0 T177.heap [] := ((((Keep.refl h0 []).trans K164 all0).trans K167 all0).trans K177 all0)
        exact Go.retNH C177 X179 (by rw [e179]; exact Si177) (EWc hw) (by rw [e179]; exact Hr178) rfl at_179 (by simp) (by rw [e179]; exact ⟨(by rw [if_pos rfl]; rfl), N179, K186⟩) (by decide) (by decide)
      · refine Go.aload (pc' := 117) C X166 at_115 rfl rfl rfl ?_
        have O188 : Ext Z.heap T164.heap := (Ext.keep O0 K164 all0)
        refine Go.callS (y := mN30) (pc' := 120) C X166 (tw hw 30 rfl) (tw hw 31 rfl) (by decide) (rm_sc20 l Z a0 hw r_164 v_164 kv_164 x0 x1 cP fm T164.heap O188 P164_0 P164_1 P164_2 P164_3 SC SF hx0 hx1 qe0 qe1 hP hfm) (tw hw 33 rfl) (tw hw 32 rfl) e166 (argsL := [(.ref r_164)]) (rest := []) (W := 0) rfl rfl pd_28 rfl (Nat.le_of_eq rfl) rfl (by decide) (by decide) (by decide) (by decide) at_117 rfl ?_
        intro T187 v187 L187 X187 q187
        obtain ⟨o_187, r_187, u_187, ku_187, rfl, N187q, K187, B187_0, B187_1, B187_2, P187_0, P187_1, P187_2, P187_3, P187_4, P187_5⟩ := q187
        have N187 := Fr.app N166 N187q
        have Hr189 := CHr.trans Hr165 (CHr.keep K187 all0 Hr165.1)
        have n_o_187 : Z.heap.size ≤ o_187 := Nat.le_trans O188.1 B187_0
        have z_o_187 : h0.size ≤ o_187 := Nat.le_trans (Nat.le_trans (Nat.le_refl _) K164.1) B187_0
        have s_o_187 : Safe Z consts_1 s.vm T187.heap o_187 := Safe.keep K187 all0 Hr165.1 (Safe.new B187_0)
        have n_r_187 : Z.heap.size ≤ r_187 := Nat.le_trans O188.1 B187_1
        have z_r_187 : h0.size ≤ r_187 := Nat.le_trans (Nat.le_trans (Nat.le_refl _) K164.1) B187_1
        have s_r_187 : Safe Z consts_1 s.vm T187.heap r_187 := Safe.keep K187 all0 Hr165.1 (Safe.new B187_1)
        have n_u_187 : Z.heap.size ≤ u_187 := Nat.le_trans O188.1 B187_2
        have z_u_187 : h0.size ≤ u_187 := Nat.le_trans (Nat.le_trans (Nat.le_refl _) K164.1) B187_2
        have s_u_187 : Safe Z consts_1 s.vm T187.heap u_187 := Safe.keep K187 all0 Hr165.1 (Safe.new B187_2)
        refine Go.astore (Ls' := #[.val (.int p1), .val (.int p2), .val (.int p3), .val (.int p4), .val (.int p5), .val (.int (2 : Int32)), .val (.int x0), .val (.int x1), .val (.int x2), .val (.int x3), .val (.ref r_164), .val (.int (0 : Int32)), .val (.ref o_187)]) (pc' := 122) C X187 at_120 rfl rfl rfl ?_
        refine Go.iload (pc' := 124) C X187 at_122 rfl rfl ?_
        refine Go.ifYes (pc' := 141) C X187 at_124 ((if0 _ _).trans (flt (x := (0 : Int32)) (y := (0 : Int32)) (by decide)).2.1) (by decide) (by decide) ?_
        refine Go.aload (pc' := 143) C X187 at_141 rfl rfl rfl ?_
        have O192 : Ext Z.heap T187.heap := (Ext.keep O188 K187 all0)
        refine Go.callV (y := mN27) (z := mN27) (a := o_187) (pc' := 146) C X187 (tw hw 76 rfl) (tw hw 77 rfl) (notFace_at C.2.1 (tw hw 79 rfl)) (tw hw 79 rfl) (tw hw 78 rfl) P187_0 (by decide) (rm_op1 l Z a0 hw o_187 r_187 T187.heap O192 P187_1) (tw hw 80 rfl) (tw hw 73 rfl) rfl (argsL := []) (rest := []) (W := 0) rfl rfl pd_13 rfl (Nat.le_of_eq rfl) rfl (by decide) (by decide) (by decide) (by decide) at_143 rfl ?_
        intro T191 v191 L191 X191 q191
        obtain ⟨rfl, rfl, e191⟩ := q191
        have N191 := Fr.app N187 (Fr.nil _)
        refine Go.ifYes (pc' := 151) C X191 at_146 ((if0 _ _).trans (feq (x := (1 : Int32)) (y := (0 : Int32)) (by decide)).2) (by decide) (by decide) ?_
        refine Go.aload (pc' := 153) C X191 at_151 rfl rfl rfl ?_
        refine Go.callV (y := mN26) (z := mN26) (a := o_187) (pc' := 156) C X191 (tw hw 132 rfl) (tw hw 133 rfl) (notFace_at C.2.1 (tw hw 135 rfl)) (tw hw 135 rfl) (tw hw 134 rfl) P187_0 (by decide) (rm_oge l Z a0 hw o_187 r_187 T187.heap O192 P187_1) (tw hw 136 rfl) (tw hw 73 rfl) e191 (argsL := []) (rest := []) (W := 0) rfl rfl pd_29 rfl (Nat.le_of_eq rfl) rfl (by decide) (by decide) (by decide) (by decide) at_153 rfl ?_
        intro T194 v194 L194 X194 q194
        obtain ⟨rfl, rfl, e194⟩ := q194
        have N194 := Fr.app N191 (Fr.nil _)
        refine Go.castY (pc' := 159) C X194 (tw hw 9 rfl) e194 (Ins.self P187_2) at_156 rfl ?_
        intro T195 X195 e195
        refine Go.iload (pc' := 161) C X195 at_159 rfl rfl ?_
        refine Go.iload (pc' := 163) C X195 at_161 rfl rfl ?_
        refine Go.iload (pc' := 165) C X195 at_163 rfl rfl ?_
        refine Go.iload (pc' := 167) C X195 at_165 rfl rfl ?_
        refine Go.iload (pc' := 169) C X195 at_167 rfl rfl ?_
        refine Go.iconst (z := (1 : Int32)) (pc' := 170) C X195 at_169 rfl rfl ?_
        refine Go.iadd (pc' := 171) C X195 at_170 rfl ?_
        rw [show ((0 : Int32) + (1 : Int32)) = (1 : Int32) from by decide]
        refine Go.iload (pc' := 173) C X195 at_171 rfl rfl ?_
        refine Go.callS (y := mN33) (pc' := 176) C X195 (tw hw 5 rfl) (tw hw 6 rfl) (by decide) (rm_st12 l Z a0 hw x0 x1 x2 x3 cP T187.heap O192 SC hP hx0 hx1 hx2 hx3) (tw hw 7 rfl) (tw hw 3 rfl) e195 (argsL := [(.int x0), (.int x1), (.int x2), (.int x3), (.int (1 : Int32)), (.int (2 : Int32))]) (rest := [(.ref r_187)]) (W := 1) rfl rfl pd_27 rfl (Nat.le_of_eq rfl) rfl (by decide) (by decide) (by decide) (by decide) at_173 rfl ?_
        intro T196 v196 L196 X196 q196
        obtain ⟨r_196, v_196, kv_196, rfl, N196q, K196, B196_0, B196_1, P196_0, P196_1, P196_2, P196_3⟩ := q196
        have N196 := Fr.app N194 N196q
        have Hr197 := CHr.trans Hr189 (CHr.keep K196 all0 Hr189.1)
        have n_r_196 : Z.heap.size ≤ r_196 := Nat.le_trans O192.1 B196_0
        have z_r_196 : h0.size ≤ r_196 := Nat.le_trans (Nat.le_trans (Nat.le_trans (Nat.le_refl _) K164.1) K187.1) B196_0
        have s_r_196 : Safe Z consts_1 s.vm T196.heap r_196 := Safe.keep K196 all0 Hr189.1 (Safe.new B196_0)
        have n_v_196 : Z.heap.size ≤ v_196 := Nat.le_trans O192.1 B196_1
        have z_v_196 : h0.size ≤ v_196 := Nat.le_trans (Nat.le_trans (Nat.le_trans (Nat.le_refl _) K164.1) K187.1) B196_1
        have s_v_196 : Safe Z consts_1 s.vm T196.heap v_196 := Safe.keep K196 all0 Hr189.1 (Safe.new B196_1)
        have c199 : Exa Z T196.heap r_187 "java/lang/String" := (Exa.keep P187_2 K196)
        have c200 : Fld Z T196.heap r_187 "java/lang/String" "value" "[B" (.ref u_187) := (Fld.keep P187_3 K196 nin0)
        have c201 : Fld Z T196.heap r_187 "java/lang/String" "coder" "B" (.int (0 : Int32)) := (Fld.keep P187_4 K196 nin0)
        have c202 : AL Z T196.heap u_187 ku_187 .byte (by8 [x1]) := (AL.keep P187_5 K196 nin0)
        have ne203 : r_187 ≠ r_196 := Nat.ne_of_lt (Nat.lt_of_lt_of_le P187_2.lt (Nat.le_trans (Nat.le_refl _) B196_0))
        have O204 : Ext Z.heap T196.heap := (Ext.keep O192 K196 all0)
        refine Go.callV (y := mN6) (z := mN6) (a := r_187) (pc' := 179) C X196 (tw hw 137 rfl) (tw hw 138 rfl) (notFace_at C.2.1 (tw hw 140 rfl)) (tw hw 140 rfl) (tw hw 139 rfl) c199 (by decide) (rm_eqS l Z a0 hw r_187 r_196 u_187 v_196 ku_187 kv_196 [x1] [x1] cP T196.heap O204 SC c199 c200 c201 c202 P196_0 P196_1 P196_2 P196_3 ne203 hP (show (1 : Nat) < 2 ^ 31 from by decide) (show (1 : Nat) < 2 ^ 31 from by decide)) (tw hw 141 rfl) (tw hw 11 rfl) rfl (argsL := [(.ref r_196)]) (rest := []) (W := 0) rfl rfl pd_30 rfl (Nat.le_of_eq rfl) rfl (by decide) (by decide) (by decide) (by decide) at_176 rfl ?_
        intro T198 v198 L198 X198 q198
        obtain ⟨rfl, rfl, e198⟩ := q198
        have N198 := Fr.app N196 (Fr.nil _)
        have K205 : Keep h0 T196.heap [] := ((((Keep.refl h0 []).trans K164 all0).trans K187 all0).trans K196 all0)
        have Si206 : Sin s s T196.heap := Sin.mono Si0 (Nat.le_trans (Nat.le_trans (Nat.le_trans (Nat.le_refl _) K164.1) K187.1) K196.1)
        exact Go.retNH C X198 (by rw [e198]; exact Si206) (EWc hw) (by rw [e198]; exact Hr197) rfl at_179 (by simp) (by rw [e198]; exact ⟨(by rw [if_pos rfl]; rfl), N198, K205⟩) (by decide) (by decide)
      · refine Go.aload (pc' := 117) C X166 at_115 rfl rfl rfl ?_
        have O208 : Ext Z.heap T164.heap := (Ext.keep O0 K164 all0)
        refine Go.callS (y := mN30) (pc' := 120) C X166 (tw hw 30 rfl) (tw hw 31 rfl) (by decide) (rm_sc2m l Z a0 hw r_164 v_164 kv_164 x0 x1 cP em T164.heap O208 P164_0 P164_1 P164_2 P164_3 SC SE hx0 hx1 qe0 qe1 hP) (tw hw 33 rfl) (tw hw 32 rfl) e166 (argsL := [(.ref r_164)]) (rest := []) (W := 0) rfl rfl pd_28 rfl (Nat.le_of_eq rfl) rfl (by decide) (by decide) (by decide) (by decide) at_117 rfl ?_
        intro T207 v207 L207 X207 q207
        obtain ⟨rfl, rfl, e207⟩ := q207
        have N207 := Fr.app N166 (Fr.nil _)
        refine Go.astore (Ls' := #[.val (.int p1), .val (.int p2), .val (.int p3), .val (.int p4), .val (.int p5), .val (.int (2 : Int32)), .val (.int x0), .val (.int x1), .val (.int x2), .val (.int x3), .val (.ref r_164), .val (.int (-1 : Int32)), .val (.ref em)]) (pc' := 122) C X207 at_120 rfl rfl rfl ?_
        refine Go.iload (pc' := 124) C X207 at_122 rfl rfl ?_
        refine Go.ifNo (pc' := 127) C X207 at_124 ((if0 _ _).trans (tlt (x := (-1 : Int32)) (y := (0 : Int32)) (by decide)).2.1) rfl ?_
        refine Go.aload (pc' := 129) C X207 at_127 rfl rfl rfl ?_
        refine Go.callV (y := mN27) (z := mN27) (a := em) (pc' := 132) C X207 (tw hw 76 rfl) (tw hw 77 rfl) (notFace_at C.2.1 (tw hw 79 rfl)) (tw hw 79 rfl) (tw hw 78 rfl) (Exa.ext O208 Ee) (by decide) (rm_op0 l Z a0 hw em T164.heap O208 Fe) (tw hw 80 rfl) (tw hw 73 rfl) e207 (argsL := []) (rest := []) (W := 0) rfl rfl pd_13 rfl (Nat.le_of_eq rfl) rfl (by decide) (by decide) (by decide) (by decide) at_129 rfl ?_
        intro T210 v210 L210 X210 q210
        obtain ⟨rfl, rfl, e210⟩ := q210
        have N210 := Fr.app N207 (Fr.nil _)
        refine Go.ifNo (pc' := 135) C X210 at_132 ((if0 _ _).trans (teq (x := (0 : Int32)) (y := (0 : Int32)) (by decide)).2) rfl ?_
        refine Go.iconst (z := (1 : Int32)) (pc' := 136) C X210 at_135 rfl rfl ?_
        refine Go.goto (pc' := 140) C X210 at_136 (by decide) (by decide) ?_
        have K212 : Keep h0 T164.heap [] := ((Keep.refl h0 []).trans K164 all0)
        have Si213 : Sin s s T164.heap := Sin.mono Si0 (Nat.le_trans (Nat.le_refl _) K164.1)
        exact Go.retNH C X210 (by rw [e210]; exact Si213) (EWc hw) (by rw [e210]; exact Hr165) rfl at_140 (by simp) (by rw [e210]; exact ⟨rfl, N210, K212⟩) (by decide) (by decide)
    refine Go.iconst (z := (-1 : Int32)) (pc' := 50) C X164 at_49 rfl rfl ?_
    refine Go.istore (Ls' := #[.val (.int p1), .val (.int p2), .val (.int p3), .val (.int p4), .val (.int p5), .val (.int (2 : Int32)), .val (.int x0), .val (.int x1), .val (.int x2), .val (.int x3), .val (.ref r_164), .val (.int (-1 : Int32)), .unset]) (pc' := 52) C X164 at_50 rfl rfl ?_
    refine Go.iload (pc' := 54) C X164 at_52 rfl rfl ?_
    refine Go.ifNo (pc' := 57) C X164 at_54 ((if0 _ _).trans (tlt (x := (0 : Int32)) (y := (2 : Int32)) (by decide)).2.2.2) rfl ?_
    refine Go.iload (pc' := 59) C X164 at_57 rfl rfl ?_
    refine Go.bipush (z := (64 : Int32)) (pc' := 61) C X164 at_59 rfl rfl ?_
    by_cases hc61_215 : x0 = (64 : Int32)
    · refine Go.icmpNo (pc' := 64) C X164 at_61 (teq (x := x0) (y := (64 : Int32)) hc61_215).2 rfl ?_
      refine Go.iconst (z := (0 : Int32)) (pc' := 65) C X164 at_64 rfl rfl ?_
      refine Go.istore (Ls' := #[.val (.int p1), .val (.int p2), .val (.int p3), .val (.int p4), .val (.int p5), .val (.int (2 : Int32)), .val (.int x0), .val (.int x1), .val (.int x2), .val (.int x3), .val (.ref r_164), .val (.int (0 : Int32)), .unset]) (pc' := 67) C X164 at_65 rfl rfl ?_
      refine Go.iload (pc' := 69) C X164 at_67 rfl rfl ?_
      refine Go.iconst (z := (1 : Int32)) (pc' := 70) C X164 at_69 rfl rfl ?_
      refine Go.icmpNo (pc' := 73) C X164 at_70 (tlt (x := (1 : Int32)) (y := (2 : Int32)) (by decide)).2.2.2 rfl ?_
      refine Go.iload (pc' := 75) C X164 at_73 rfl rfl ?_
      refine Go.bipush (z := (64 : Int32)) (pc' := 77) C X164 at_75 rfl rfl ?_
      by_cases hc77_217 : x1 = (64 : Int32)
      · refine Go.icmpNo (pc' := 80) C X164 at_77 (teq (x := x1) (y := (64 : Int32)) hc77_217).2 rfl ?_
        refine Go.iconst (z := (1 : Int32)) (pc' := 81) C X164 at_80 rfl rfl ?_
        refine Go.istore (Ls' := #[.val (.int p1), .val (.int p2), .val (.int p3), .val (.int p4), .val (.int p5), .val (.int (2 : Int32)), .val (.int x0), .val (.int x1), .val (.int x2), .val (.int x3), .val (.ref r_164), .val (.int (1 : Int32)), .unset]) (pc' := 83) C X164 at_81 rfl rfl ?_
        refine Go.iload (pc' := 85) C X164 at_83 rfl rfl ?_
        refine Go.iconst (z := (2 : Int32)) (pc' := 86) C X164 at_85 rfl rfl ?_
        refine Go.icmpYes (pc' := 99) C X164 at_86 (flt (x := (2 : Int32)) (y := (2 : Int32)) (by decide)).2.2.2 (by decide) (by decide) ?_
        refine Go.iload (pc' := 101) C X164 at_99 rfl rfl ?_
        refine Go.iconst (z := (3 : Int32)) (pc' := 102) C X164 at_101 rfl rfl ?_
        refine Go.icmpYes (pc' := 115) C X164 at_102 (flt (x := (3 : Int32)) (y := (2 : Int32)) (by decide)).2.2.2 (by decide) (by decide) ?_
        exact K115 _ _ X164 rfl N164 (1 : Int32) (Or.inl ⟨rfl, hc77_217⟩)
      · refine Go.icmpYes (pc' := 83) C X164 at_77 (feq (x := x1) (y := (64 : Int32)) hc77_217).2 (by decide) (by decide) ?_
        refine Go.iload (pc' := 85) C X164 at_83 rfl rfl ?_
        refine Go.iconst (z := (2 : Int32)) (pc' := 86) C X164 at_85 rfl rfl ?_
        refine Go.icmpYes (pc' := 99) C X164 at_86 (flt (x := (2 : Int32)) (y := (2 : Int32)) (by decide)).2.2.2 (by decide) (by decide) ?_
        refine Go.iload (pc' := 101) C X164 at_99 rfl rfl ?_
        refine Go.iconst (z := (3 : Int32)) (pc' := 102) C X164 at_101 rfl rfl ?_
        refine Go.icmpYes (pc' := 115) C X164 at_102 (flt (x := (3 : Int32)) (y := (2 : Int32)) (by decide)).2.2.2 (by decide) (by decide) ?_
        exact K115 _ _ X164 rfl N164 (0 : Int32) (Or.inr (Or.inl ⟨rfl, hc61_215, hc77_217⟩))
    · refine Go.icmpYes (pc' := 67) C X164 at_61 (feq (x := x0) (y := (64 : Int32)) hc61_215).2 (by decide) (by decide) ?_
      refine Go.iload (pc' := 69) C X164 at_67 rfl rfl ?_
      refine Go.iconst (z := (1 : Int32)) (pc' := 70) C X164 at_69 rfl rfl ?_
      refine Go.icmpNo (pc' := 73) C X164 at_70 (tlt (x := (1 : Int32)) (y := (2 : Int32)) (by decide)).2.2.2 rfl ?_
      refine Go.iload (pc' := 75) C X164 at_73 rfl rfl ?_
      refine Go.bipush (z := (64 : Int32)) (pc' := 77) C X164 at_75 rfl rfl ?_
      by_cases hc77_223 : x1 = (64 : Int32)
      · refine Go.icmpNo (pc' := 80) C X164 at_77 (teq (x := x1) (y := (64 : Int32)) hc77_223).2 rfl ?_
        refine Go.iconst (z := (1 : Int32)) (pc' := 81) C X164 at_80 rfl rfl ?_
        refine Go.istore (Ls' := #[.val (.int p1), .val (.int p2), .val (.int p3), .val (.int p4), .val (.int p5), .val (.int (2 : Int32)), .val (.int x0), .val (.int x1), .val (.int x2), .val (.int x3), .val (.ref r_164), .val (.int (1 : Int32)), .unset]) (pc' := 83) C X164 at_81 rfl rfl ?_
        refine Go.iload (pc' := 85) C X164 at_83 rfl rfl ?_
        refine Go.iconst (z := (2 : Int32)) (pc' := 86) C X164 at_85 rfl rfl ?_
        refine Go.icmpYes (pc' := 99) C X164 at_86 (flt (x := (2 : Int32)) (y := (2 : Int32)) (by decide)).2.2.2 (by decide) (by decide) ?_
        refine Go.iload (pc' := 101) C X164 at_99 rfl rfl ?_
        refine Go.iconst (z := (3 : Int32)) (pc' := 102) C X164 at_101 rfl rfl ?_
        refine Go.icmpYes (pc' := 115) C X164 at_102 (flt (x := (3 : Int32)) (y := (2 : Int32)) (by decide)).2.2.2 (by decide) (by decide) ?_
        exact K115 _ _ X164 rfl N164 (1 : Int32) (Or.inl ⟨rfl, hc77_223⟩)
      · refine Go.icmpYes (pc' := 83) C X164 at_77 (feq (x := x1) (y := (64 : Int32)) hc77_223).2 (by decide) (by decide) ?_
        refine Go.iload (pc' := 85) C X164 at_83 rfl rfl ?_
        refine Go.iconst (z := (2 : Int32)) (pc' := 86) C X164 at_85 rfl rfl ?_
        refine Go.icmpYes (pc' := 99) C X164 at_86 (flt (x := (2 : Int32)) (y := (2 : Int32)) (by decide)).2.2.2 (by decide) (by decide) ?_
        refine Go.iload (pc' := 101) C X164 at_99 rfl rfl ?_
        refine Go.iconst (z := (3 : Int32)) (pc' := 102) C X164 at_101 rfl rfl ?_
        refine Go.icmpYes (pc' := 115) C X164 at_102 (flt (x := (3 : Int32)) (y := (2 : Int32)) (by decide)).2.2.2 (by decide) (by decide) ?_
        exact K115 _ _ X164 rfl N164 (-1 : Int32) (Or.inr (Or.inr ⟨rfl, hc61_215, hc77_223⟩))
  · rw [hl]
    refine Go.istore (Ls' := #[.val (.int p1), .val (.int p2), .val (.int p3), .val (.int p4), .val (.int p5), .val (.int (3 : Int32)), .unset, .unset, .unset, .unset, .unset, .unset, .unset]) (pc' := 8) C X0 at_6 rfl rfl ?_
    refine Go.iloadN (pc' := 9) C X0 at_8 rfl rfl ?_
    refine Go.callS (y := mN31) (pc' := 12) C X0 (tw hw 1 rfl) (tw hw 2 rfl) (by decide) (rm_ch l Z a0 hw p2 h0 O0 ) (tw hw 4 rfl) (tw hw 3 rfl) e0 (argsL := [(.int p2)]) (rest := []) (W := 0) rfl rfl pd_26 rfl (Nat.le_of_eq rfl) rfl (by decide) (by decide) (by decide) (by decide) at_9 rfl ?_
    intro T228 v228 L228 X228 q228
    obtain ⟨r_228, rfl, rfl, e228, p228_0⟩ := q228
    have N228 := Fr.app N0 (Fr.nil _)
    refine Go.istore (Ls' := #[.val (.int p1), .val (.int p2), .val (.int p3), .val (.int p4), .val (.int p5), .val (.int (3 : Int32)), .val (.int r_228), .unset, .unset, .unset, .unset, .unset, .unset]) (pc' := 14) C X228 at_12 rfl rfl ?_
    refine Go.iloadN (pc' := 15) C X228 at_14 rfl rfl ?_
    refine Go.callS (y := mN31) (pc' := 18) C X228 (tw hw 1 rfl) (tw hw 2 rfl) (by decide) (rm_ch l Z a0 hw p3 h0 O0 ) (tw hw 4 rfl) (tw hw 3 rfl) e228 (argsL := [(.int p3)]) (rest := []) (W := 0) rfl rfl pd_26 rfl (Nat.le_of_eq rfl) rfl (by decide) (by decide) (by decide) (by decide) at_15 rfl ?_
    intro T229 v229 L229 X229 q229
    obtain ⟨r_229, rfl, rfl, e229, p229_0⟩ := q229
    have N229 := Fr.app N228 (Fr.nil _)
    refine Go.istore (Ls' := #[.val (.int p1), .val (.int p2), .val (.int p3), .val (.int p4), .val (.int p5), .val (.int (3 : Int32)), .val (.int r_228), .val (.int r_229), .unset, .unset, .unset, .unset, .unset]) (pc' := 20) C X229 at_18 rfl rfl ?_
    refine Go.iloadN (pc' := 21) C X229 at_20 rfl rfl ?_
    refine Go.callS (y := mN31) (pc' := 24) C X229 (tw hw 1 rfl) (tw hw 2 rfl) (by decide) (rm_ch l Z a0 hw p4 h0 O0 ) (tw hw 4 rfl) (tw hw 3 rfl) e229 (argsL := [(.int p4)]) (rest := []) (W := 0) rfl rfl pd_26 rfl (Nat.le_of_eq rfl) rfl (by decide) (by decide) (by decide) (by decide) at_21 rfl ?_
    intro T230 v230 L230 X230 q230
    obtain ⟨r_230, rfl, rfl, e230, p230_0⟩ := q230
    have N230 := Fr.app N229 (Fr.nil _)
    refine Go.istore (Ls' := #[.val (.int p1), .val (.int p2), .val (.int p3), .val (.int p4), .val (.int p5), .val (.int (3 : Int32)), .val (.int r_228), .val (.int r_229), .val (.int r_230), .unset, .unset, .unset, .unset]) (pc' := 26) C X230 at_24 rfl rfl ?_
    refine Go.iload (pc' := 28) C X230 at_26 rfl rfl ?_
    refine Go.callS (y := mN31) (pc' := 31) C X230 (tw hw 1 rfl) (tw hw 2 rfl) (by decide) (rm_ch l Z a0 hw p5 h0 O0 ) (tw hw 4 rfl) (tw hw 3 rfl) e230 (argsL := [(.int p5)]) (rest := []) (W := 0) rfl rfl pd_26 rfl (Nat.le_of_eq rfl) rfl (by decide) (by decide) (by decide) (by decide) at_28 rfl ?_
    intro T231 v231 L231 X231 q231
    obtain ⟨r_231, rfl, rfl, e231, p231_0⟩ := q231
    have N231 := Fr.app N230 (Fr.nil _)
    refine Go.istore (Ls' := #[.val (.int p1), .val (.int p2), .val (.int p3), .val (.int p4), .val (.int p5), .val (.int (3 : Int32)), .val (.int r_228), .val (.int r_229), .val (.int r_230), .val (.int r_231), .unset, .unset, .unset]) (pc' := 33) C X231 at_31 rfl rfl ?_
    obtain ⟨x0, hz0⟩ : ∃ z, z = r_228 := ⟨_, rfl⟩
    subst hz0
    have hx0 := p228_0
    obtain ⟨x1, hz1⟩ : ∃ z, z = r_229 := ⟨_, rfl⟩
    subst hz1
    have hx1 := p229_0
    obtain ⟨x2, hz2⟩ : ∃ z, z = r_230 := ⟨_, rfl⟩
    subst hz2
    have hx2 := p230_0
    obtain ⟨x3, hz3⟩ : ∃ z, z = r_231 := ⟨_, rfl⟩
    subst hz3
    have hx3 := p231_0
    refine Go.iload (pc' := 35) C X231 at_33 rfl rfl ?_
    refine Go.iload (pc' := 37) C X231 at_35 rfl rfl ?_
    refine Go.iload (pc' := 39) C X231 at_37 rfl rfl ?_
    refine Go.iload (pc' := 41) C X231 at_39 rfl rfl ?_
    refine Go.iconst (z := (0 : Int32)) (pc' := 42) C X231 at_41 rfl rfl ?_
    refine Go.iload (pc' := 44) C X231 at_42 rfl rfl ?_
    refine Go.callS (y := mN33) (pc' := 47) C X231 (tw hw 5 rfl) (tw hw 6 rfl) (by decide) (rm_st03 l Z a0 hw x0 x1 x2 x3 cP h0 O0 SC hP hx0 hx1 hx2 hx3) (tw hw 7 rfl) (tw hw 3 rfl) e231 (argsL := [(.int x0), (.int x1), (.int x2), (.int x3), (.int (0 : Int32)), (.int (3 : Int32))]) (rest := []) (W := 0) rfl rfl pd_27 rfl (Nat.le_of_eq rfl) rfl (by decide) (by decide) (by decide) (by decide) at_44 rfl ?_
    intro T232 v232 L232 X232 q232
    obtain ⟨r_232, v_232, kv_232, rfl, N232q, K232, B232_0, B232_1, P232_0, P232_1, P232_2, P232_3⟩ := q232
    have N232 := Fr.app N231 N232q
    have Hr233 := CHr.trans Hr0 (CHr.keep K232 all0 Hr0.1)
    have n_r_232 : Z.heap.size ≤ r_232 := Nat.le_trans O0.1 B232_0
    have z_r_232 : h0.size ≤ r_232 := Nat.le_trans (Nat.le_refl _) B232_0
    have s_r_232 : Safe Z consts_1 s.vm T232.heap r_232 := Safe.keep K232 all0 Hr0.1 (Safe.new B232_0)
    have n_v_232 : Z.heap.size ≤ v_232 := Nat.le_trans O0.1 B232_1
    have z_v_232 : h0.size ≤ v_232 := Nat.le_trans (Nat.le_refl _) B232_1
    have s_v_232 : Safe Z consts_1 s.vm T232.heap v_232 := Safe.keep K232 all0 Hr0.1 (Safe.new B232_1)
    refine Go.astore (Ls' := #[.val (.int p1), .val (.int p2), .val (.int p3), .val (.int p4), .val (.int p5), .val (.int (3 : Int32)), .val (.int x0), .val (.int x1), .val (.int x2), .val (.int x3), .val (.ref r_232), .unset, .unset]) (pc' := 49) C X232 at_47 rfl rfl rfl ?_
    have K115 : ∀ (T234 : State) (L234 : List Loc), Stand p l e room_1 s m #[(.int p1), (.int p2), (.int p3), (.int p4), (.int p5)] below meth c T234 L234 3 11 → T234.heap = T232.heap → Fr Z.heap.size L234 → ∀ (la : Int32), ((la = (2 : Int32) ∧ x2 = (64 : Int32)) ∨ (la = (1 : Int32) ∧ x1 = (64 : Int32) ∧ ¬ x2 = (64 : Int32)) ∨ (la = (0 : Int32) ∧ x0 = (64 : Int32) ∧ ¬ x1 = (64 : Int32) ∧ ¬ x2 = (64 : Int32)) ∨ (la = (-1 : Int32) ∧ ¬ x0 = (64 : Int32) ∧ ¬ x1 = (64 : Int32) ∧ ¬ x2 = (64 : Int32))) → Go p e below (FnH Z consts_1 s h0 room_1.cells room_1.slots (Q_law Z p1 p2 p3 p4 p5 cP fm em h0)) T234 (mkF m 115 #[.val (.int p1), .val (.int p2), .val (.int p3), .val (.int p4), .val (.int p5), .val (.int (3 : Int32)), .val (.int x0), .val (.int x1), .val (.int x2), .val (.int x3), .val (.ref r_232), .val (.int la), .unset] []) := by
      intro T234 L234 X234 e234 N234 la hla
      rcases hla with ⟨rfl, qe2⟩ | ⟨rfl, qe1, qe2⟩ | ⟨rfl, qe0, qe1, qe2⟩ | ⟨rfl, qe0, qe1, qe2⟩
      · refine Go.aload (pc' := 117) C X234 at_115 rfl rfl rfl ?_
        have O236 : Ext Z.heap T232.heap := (Ext.keep O0 K232 all0)
        have Si237 : Sin s s T232.heap := Sin.mono Si0 (Nat.le_trans (Nat.le_refl _) K232.1)
        refine Go.callSH (y := mN30) (pc' := 120) C X234 Si237 (EWc hw) Hr233.1 (tw hw 30 rfl) (tw hw 31 rfl) (by decide) all0 (rm_sc32 l Z a0 hw r_232 v_232 kv_232 x0 x1 x2 cP fm T232.heap O236 P232_0 P232_1 P232_2 P232_3 SC SF hx0 hx1 hx2 qe2 hP hfm) (tw hw 33 rfl) (tw hw 32 rfl) e234 (argsL := [(.ref r_232)]) (rest := []) (W := 0) rfl rfl pd_28 rfl (Nat.le_of_eq rfl) rfl (by decide) (by decide) (by decide) (by decide) at_117 rfl ?_
        intro T235 v235 L235 sC235 C235 X235 Si235 hR235 q235
        obtain ⟨o_235, r_235, u_235, ku_235, rfl, N235q, K235, B235_0, P235_0, P235_1, P235_2, P235_3, P235_4, P235_5⟩ := q235
        have N235 := Fr.app N234 N235q
        have Hr238 := CHr.trans Hr233 hR235
        have n_o_235 : Z.heap.size ≤ o_235 := Nat.le_trans O236.1 B235_0
        have z_o_235 : h0.size ≤ o_235 := Nat.le_trans (Nat.le_trans (Nat.le_refl _) K232.1) B235_0
        refine Go.astore (Ls' := #[.val (.int p1), .val (.int p2), .val (.int p3), .val (.int p4), .val (.int p5), .val (.int (3 : Int32)), .val (.int x0), .val (.int x1), .val (.int x2), .val (.int x3), .val (.ref r_232), .val (.int (2 : Int32)), .val (.ref o_235)]) (pc' := 122) C235 X235 at_120 rfl rfl rfl ?_
        refine Go.iload (pc' := 124) C235 X235 at_122 rfl rfl ?_
        refine Go.ifYes (pc' := 141) C235 X235 at_124 ((if0 _ _).trans (flt (x := (2 : Int32)) (y := (0 : Int32)) (by decide)).2.1) (by decide) (by decide) ?_
        refine Go.aload (pc' := 143) C235 X235 at_141 rfl rfl rfl ?_
        have O241 : Ext Z.heap T235.heap := (Ext.keep O236 K235 all0)
        refine Go.callV (y := mN27) (z := mN27) (a := o_235) (pc' := 146) C235 X235 (tw hw 76 rfl) (tw hw 77 rfl) (notFace_at C235.2.1 (tw hw 79 rfl)) (tw hw 79 rfl) (tw hw 78 rfl) P235_0 (by decide) (rm_op1 l Z a0 hw o_235 r_235 T235.heap O241 P235_1) (tw hw 80 rfl) (tw hw 73 rfl) rfl (argsL := []) (rest := []) (W := 0) rfl rfl pd_13 rfl (Nat.le_of_eq rfl) rfl (by decide) (by decide) (by decide) (by decide) at_143 rfl ?_
        intro T240 v240 L240 X240 q240
        obtain ⟨rfl, rfl, e240⟩ := q240
        have N240 := Fr.app N235 (Fr.nil _)
        refine Go.ifYes (pc' := 151) C235 X240 at_146 ((if0 _ _).trans (feq (x := (1 : Int32)) (y := (0 : Int32)) (by decide)).2) (by decide) (by decide) ?_
        refine Go.aload (pc' := 153) C235 X240 at_151 rfl rfl rfl ?_
        refine Go.callV (y := mN26) (z := mN26) (a := o_235) (pc' := 156) C235 X240 (tw hw 132 rfl) (tw hw 133 rfl) (notFace_at C235.2.1 (tw hw 135 rfl)) (tw hw 135 rfl) (tw hw 134 rfl) P235_0 (by decide) (rm_oge l Z a0 hw o_235 r_235 T235.heap O241 P235_1) (tw hw 136 rfl) (tw hw 73 rfl) e240 (argsL := []) (rest := []) (W := 0) rfl rfl pd_29 rfl (Nat.le_of_eq rfl) rfl (by decide) (by decide) (by decide) (by decide) at_153 rfl ?_
        intro T243 v243 L243 X243 q243
        obtain ⟨rfl, rfl, e243⟩ := q243
        have N243 := Fr.app N240 (Fr.nil _)
        refine Go.castY (pc' := 159) C235 X243 (tw hw 9 rfl) e243 (Ins.self P235_2) at_156 rfl ?_
        intro T244 X244 e244
        refine Go.iload (pc' := 161) C235 X244 at_159 rfl rfl ?_
        refine Go.iload (pc' := 163) C235 X244 at_161 rfl rfl ?_
        refine Go.iload (pc' := 165) C235 X244 at_163 rfl rfl ?_
        refine Go.iload (pc' := 167) C235 X244 at_165 rfl rfl ?_
        refine Go.iload (pc' := 169) C235 X244 at_167 rfl rfl ?_
        refine Go.iconst (z := (1 : Int32)) (pc' := 170) C235 X244 at_169 rfl rfl ?_
        refine Go.iadd (pc' := 171) C235 X244 at_170 rfl ?_
        rw [show ((2 : Int32) + (1 : Int32)) = (3 : Int32) from by decide]
        refine Go.iload (pc' := 173) C235 X244 at_171 rfl rfl ?_
        refine Go.callSH (y := mN33) (pc' := 176) C235 X244 Si235 (EWc hw) Hr238.1 (tw hw 5 rfl) (tw hw 6 rfl) (by decide) all0 (rm_st33 l Z a0 hw x0 x1 x2 x3 T235.heap O241 ) (tw hw 7 rfl) (tw hw 3 rfl) e244 (argsL := [(.int x0), (.int x1), (.int x2), (.int x3), (.int (3 : Int32)), (.int (3 : Int32))]) (rest := [(.ref r_235)]) (W := 1) rfl rfl pd_27 rfl (Nat.le_of_eq rfl) rfl (by decide) (by decide) (by decide) (by decide) at_173 rfl ?_
        intro T245 v245 L245 sC245 C245 X245 Si245 hR245 q245
        obtain ⟨r_245, v_245, kv_245, rfl, N245q, K245, B245_0, P245_0, P245_1, P245_2, P245_3⟩ := q245
        have N245 := Fr.app N243 N245q
        have Hr246 := CHr.trans Hr238 hR245
        have n_r_245 : Z.heap.size ≤ r_245 := Nat.le_trans O241.1 B245_0
        have z_r_245 : h0.size ≤ r_245 := Nat.le_trans (Nat.le_trans (Nat.le_trans (Nat.le_refl _) K232.1) K235.1) B245_0
        have c248 : Exa Z T245.heap r_235 "java/lang/String" := (Exa.keep P235_2 K245)
        have c249 : Fld Z T245.heap r_235 "java/lang/String" "value" "[B" (.ref u_235) := (Fld.keep P235_3 K245 nin0)
        have c250 : Fld Z T245.heap r_235 "java/lang/String" "coder" "B" (.int (0 : Int32)) := (Fld.keep P235_4 K245 nin0)
        have c251 : AL Z T245.heap u_235 ku_235 .byte (by8 []) := (AL.keep P235_5 K245 nin0)
        have ne252 : r_235 ≠ r_245 := Nat.ne_of_lt (Nat.lt_of_lt_of_le P235_2.lt (Nat.le_trans (Nat.le_refl _) B245_0))
        have O253 : Ext Z.heap T245.heap := (Ext.keep O241 K245 all0)
        refine Go.callV (y := mN6) (z := mN6) (a := r_235) (pc' := 179) C245 X245 (tw hw 137 rfl) (tw hw 138 rfl) (notFace_at C245.2.1 (tw hw 140 rfl)) (tw hw 140 rfl) (tw hw 139 rfl) c248 (by decide) (rm_eqS l Z a0 hw r_235 r_245 u_235 v_245 ku_235 kv_245 [] [] cP T245.heap O253 SC c248 c249 c250 c251 P245_0 P245_1 P245_2 P245_3 ne252 hP (show (0 : Nat) < 2 ^ 31 from by decide) (show (0 : Nat) < 2 ^ 31 from by decide)) (tw hw 141 rfl) (tw hw 11 rfl) rfl (argsL := [(.ref r_245)]) (rest := []) (W := 0) rfl rfl pd_30 rfl (Nat.le_of_eq rfl) rfl (by decide) (by decide) (by decide) (by decide) at_176 rfl ?_
        intro T247 v247 L247 X247 q247
        obtain ⟨rfl, rfl, e247⟩ := q247
        have N247 := Fr.app N245 (Fr.nil _)
        have K254 : Keep h0 T245.heap [] := ((((Keep.refl h0 []).trans K232 all0).trans K235 all0).trans K245 all0)
        exact Go.retNH C245 X247 (by rw [e247]; exact Si245) (EWc hw) (by rw [e247]; exact Hr246) rfl at_179 (by simp) (by rw [e247]; exact ⟨(by rw [if_pos rfl]; rfl), N247, K254⟩) (by decide) (by decide)
      · refine Go.aload (pc' := 117) C X234 at_115 rfl rfl rfl ?_
        have O256 : Ext Z.heap T232.heap := (Ext.keep O0 K232 all0)
        refine Go.callS (y := mN30) (pc' := 120) C X234 (tw hw 30 rfl) (tw hw 31 rfl) (by decide) (rm_sc31 l Z a0 hw r_232 v_232 kv_232 x0 x1 x2 cP fm T232.heap O256 P232_0 P232_1 P232_2 P232_3 SC SF hx0 hx1 hx2 qe1 qe2 hP hfm) (tw hw 33 rfl) (tw hw 32 rfl) e234 (argsL := [(.ref r_232)]) (rest := []) (W := 0) rfl rfl pd_28 rfl (Nat.le_of_eq rfl) rfl (by decide) (by decide) (by decide) (by decide) at_117 rfl ?_
        intro T255 v255 L255 X255 q255
        obtain ⟨o_255, r_255, u_255, ku_255, rfl, N255q, K255, B255_0, B255_1, B255_2, P255_0, P255_1, P255_2, P255_3, P255_4, P255_5⟩ := q255
        have N255 := Fr.app N234 N255q
        have Hr257 := CHr.trans Hr233 (CHr.keep K255 all0 Hr233.1)
        have n_o_255 : Z.heap.size ≤ o_255 := Nat.le_trans O256.1 B255_0
        have z_o_255 : h0.size ≤ o_255 := Nat.le_trans (Nat.le_trans (Nat.le_refl _) K232.1) B255_0
        have s_o_255 : Safe Z consts_1 s.vm T255.heap o_255 := Safe.keep K255 all0 Hr233.1 (Safe.new B255_0)
        have n_r_255 : Z.heap.size ≤ r_255 := Nat.le_trans O256.1 B255_1
        have z_r_255 : h0.size ≤ r_255 := Nat.le_trans (Nat.le_trans (Nat.le_refl _) K232.1) B255_1
        have s_r_255 : Safe Z consts_1 s.vm T255.heap r_255 := Safe.keep K255 all0 Hr233.1 (Safe.new B255_1)
        have n_u_255 : Z.heap.size ≤ u_255 := Nat.le_trans O256.1 B255_2
        have z_u_255 : h0.size ≤ u_255 := Nat.le_trans (Nat.le_trans (Nat.le_refl _) K232.1) B255_2
        have s_u_255 : Safe Z consts_1 s.vm T255.heap u_255 := Safe.keep K255 all0 Hr233.1 (Safe.new B255_2)
        refine Go.astore (Ls' := #[.val (.int p1), .val (.int p2), .val (.int p3), .val (.int p4), .val (.int p5), .val (.int (3 : Int32)), .val (.int x0), .val (.int x1), .val (.int x2), .val (.int x3), .val (.ref r_232), .val (.int (1 : Int32)), .val (.ref o_255)]) (pc' := 122) C X255 at_120 rfl rfl rfl ?_
        refine Go.iload (pc' := 124) C X255 at_122 rfl rfl ?_
        refine Go.ifYes (pc' := 141) C X255 at_124 ((if0 _ _).trans (flt (x := (1 : Int32)) (y := (0 : Int32)) (by decide)).2.1) (by decide) (by decide) ?_
        refine Go.aload (pc' := 143) C X255 at_141 rfl rfl rfl ?_
        have O260 : Ext Z.heap T255.heap := (Ext.keep O256 K255 all0)
        refine Go.callV (y := mN27) (z := mN27) (a := o_255) (pc' := 146) C X255 (tw hw 76 rfl) (tw hw 77 rfl) (notFace_at C.2.1 (tw hw 79 rfl)) (tw hw 79 rfl) (tw hw 78 rfl) P255_0 (by decide) (rm_op1 l Z a0 hw o_255 r_255 T255.heap O260 P255_1) (tw hw 80 rfl) (tw hw 73 rfl) rfl (argsL := []) (rest := []) (W := 0) rfl rfl pd_13 rfl (Nat.le_of_eq rfl) rfl (by decide) (by decide) (by decide) (by decide) at_143 rfl ?_
        intro T259 v259 L259 X259 q259
        obtain ⟨rfl, rfl, e259⟩ := q259
        have N259 := Fr.app N255 (Fr.nil _)
        refine Go.ifYes (pc' := 151) C X259 at_146 ((if0 _ _).trans (feq (x := (1 : Int32)) (y := (0 : Int32)) (by decide)).2) (by decide) (by decide) ?_
        refine Go.aload (pc' := 153) C X259 at_151 rfl rfl rfl ?_
        refine Go.callV (y := mN26) (z := mN26) (a := o_255) (pc' := 156) C X259 (tw hw 132 rfl) (tw hw 133 rfl) (notFace_at C.2.1 (tw hw 135 rfl)) (tw hw 135 rfl) (tw hw 134 rfl) P255_0 (by decide) (rm_oge l Z a0 hw o_255 r_255 T255.heap O260 P255_1) (tw hw 136 rfl) (tw hw 73 rfl) e259 (argsL := []) (rest := []) (W := 0) rfl rfl pd_29 rfl (Nat.le_of_eq rfl) rfl (by decide) (by decide) (by decide) (by decide) at_153 rfl ?_
        intro T262 v262 L262 X262 q262
        obtain ⟨rfl, rfl, e262⟩ := q262
        have N262 := Fr.app N259 (Fr.nil _)
        refine Go.castY (pc' := 159) C X262 (tw hw 9 rfl) e262 (Ins.self P255_2) at_156 rfl ?_
        intro T263 X263 e263
        refine Go.iload (pc' := 161) C X263 at_159 rfl rfl ?_
        refine Go.iload (pc' := 163) C X263 at_161 rfl rfl ?_
        refine Go.iload (pc' := 165) C X263 at_163 rfl rfl ?_
        refine Go.iload (pc' := 167) C X263 at_165 rfl rfl ?_
        refine Go.iload (pc' := 169) C X263 at_167 rfl rfl ?_
        refine Go.iconst (z := (1 : Int32)) (pc' := 170) C X263 at_169 rfl rfl ?_
        refine Go.iadd (pc' := 171) C X263 at_170 rfl ?_
        rw [show ((1 : Int32) + (1 : Int32)) = (2 : Int32) from by decide]
        refine Go.iload (pc' := 173) C X263 at_171 rfl rfl ?_
        refine Go.callS (y := mN33) (pc' := 176) C X263 (tw hw 5 rfl) (tw hw 6 rfl) (by decide) (rm_st23 l Z a0 hw x0 x1 x2 x3 cP T255.heap O260 SC hP hx0 hx1 hx2 hx3) (tw hw 7 rfl) (tw hw 3 rfl) e263 (argsL := [(.int x0), (.int x1), (.int x2), (.int x3), (.int (2 : Int32)), (.int (3 : Int32))]) (rest := [(.ref r_255)]) (W := 1) rfl rfl pd_27 rfl (Nat.le_of_eq rfl) rfl (by decide) (by decide) (by decide) (by decide) at_173 rfl ?_
        intro T264 v264 L264 X264 q264
        obtain ⟨r_264, v_264, kv_264, rfl, N264q, K264, B264_0, B264_1, P264_0, P264_1, P264_2, P264_3⟩ := q264
        have N264 := Fr.app N262 N264q
        have Hr265 := CHr.trans Hr257 (CHr.keep K264 all0 Hr257.1)
        have n_r_264 : Z.heap.size ≤ r_264 := Nat.le_trans O260.1 B264_0
        have z_r_264 : h0.size ≤ r_264 := Nat.le_trans (Nat.le_trans (Nat.le_trans (Nat.le_refl _) K232.1) K255.1) B264_0
        have s_r_264 : Safe Z consts_1 s.vm T264.heap r_264 := Safe.keep K264 all0 Hr257.1 (Safe.new B264_0)
        have n_v_264 : Z.heap.size ≤ v_264 := Nat.le_trans O260.1 B264_1
        have z_v_264 : h0.size ≤ v_264 := Nat.le_trans (Nat.le_trans (Nat.le_trans (Nat.le_refl _) K232.1) K255.1) B264_1
        have s_v_264 : Safe Z consts_1 s.vm T264.heap v_264 := Safe.keep K264 all0 Hr257.1 (Safe.new B264_1)
        have c267 : Exa Z T264.heap r_255 "java/lang/String" := (Exa.keep P255_2 K264)
        have c268 : Fld Z T264.heap r_255 "java/lang/String" "value" "[B" (.ref u_255) := (Fld.keep P255_3 K264 nin0)
        have c269 : Fld Z T264.heap r_255 "java/lang/String" "coder" "B" (.int (0 : Int32)) := (Fld.keep P255_4 K264 nin0)
        have c270 : AL Z T264.heap u_255 ku_255 .byte (by8 [x2]) := (AL.keep P255_5 K264 nin0)
        have ne271 : r_255 ≠ r_264 := Nat.ne_of_lt (Nat.lt_of_lt_of_le P255_2.lt (Nat.le_trans (Nat.le_refl _) B264_0))
        have O272 : Ext Z.heap T264.heap := (Ext.keep O260 K264 all0)
        refine Go.callV (y := mN6) (z := mN6) (a := r_255) (pc' := 179) C X264 (tw hw 137 rfl) (tw hw 138 rfl) (notFace_at C.2.1 (tw hw 140 rfl)) (tw hw 140 rfl) (tw hw 139 rfl) c267 (by decide) (rm_eqS l Z a0 hw r_255 r_264 u_255 v_264 ku_255 kv_264 [x2] [x2] cP T264.heap O272 SC c267 c268 c269 c270 P264_0 P264_1 P264_2 P264_3 ne271 hP (show (1 : Nat) < 2 ^ 31 from by decide) (show (1 : Nat) < 2 ^ 31 from by decide)) (tw hw 141 rfl) (tw hw 11 rfl) rfl (argsL := [(.ref r_264)]) (rest := []) (W := 0) rfl rfl pd_30 rfl (Nat.le_of_eq rfl) rfl (by decide) (by decide) (by decide) (by decide) at_176 rfl ?_
        intro T266 v266 L266 X266 q266
        obtain ⟨rfl, rfl, e266⟩ := q266
        have N266 := Fr.app N264 (Fr.nil _)
        have K273 : Keep h0 T264.heap [] := ((((Keep.refl h0 []).trans K232 all0).trans K255 all0).trans K264 all0)
        have Si274 : Sin s s T264.heap := Sin.mono Si0 (Nat.le_trans (Nat.le_trans (Nat.le_trans (Nat.le_refl _) K232.1) K255.1) K264.1)
        exact Go.retNH C X266 (by rw [e266]; exact Si274) (EWc hw) (by rw [e266]; exact Hr265) rfl at_179 (by simp) (by rw [e266]; exact ⟨(by rw [if_pos rfl]; rfl), N266, K273⟩) (by decide) (by decide)
      · refine Go.aload (pc' := 117) C X234 at_115 rfl rfl rfl ?_
        have O276 : Ext Z.heap T232.heap := (Ext.keep O0 K232 all0)
        refine Go.callS (y := mN30) (pc' := 120) C X234 (tw hw 30 rfl) (tw hw 31 rfl) (by decide) (rm_sc30 l Z a0 hw r_232 v_232 kv_232 x0 x1 x2 cP fm T232.heap O276 P232_0 P232_1 P232_2 P232_3 SC SF hx0 hx1 hx2 qe0 qe1 qe2 hP hfm) (tw hw 33 rfl) (tw hw 32 rfl) e234 (argsL := [(.ref r_232)]) (rest := []) (W := 0) rfl rfl pd_28 rfl (Nat.le_of_eq rfl) rfl (by decide) (by decide) (by decide) (by decide) at_117 rfl ?_
        intro T275 v275 L275 X275 q275
        obtain ⟨o_275, r_275, u_275, ku_275, rfl, N275q, K275, B275_0, B275_1, B275_2, P275_0, P275_1, P275_2, P275_3, P275_4, P275_5⟩ := q275
        have N275 := Fr.app N234 N275q
        have Hr277 := CHr.trans Hr233 (CHr.keep K275 all0 Hr233.1)
        have n_o_275 : Z.heap.size ≤ o_275 := Nat.le_trans O276.1 B275_0
        have z_o_275 : h0.size ≤ o_275 := Nat.le_trans (Nat.le_trans (Nat.le_refl _) K232.1) B275_0
        have s_o_275 : Safe Z consts_1 s.vm T275.heap o_275 := Safe.keep K275 all0 Hr233.1 (Safe.new B275_0)
        have n_r_275 : Z.heap.size ≤ r_275 := Nat.le_trans O276.1 B275_1
        have z_r_275 : h0.size ≤ r_275 := Nat.le_trans (Nat.le_trans (Nat.le_refl _) K232.1) B275_1
        have s_r_275 : Safe Z consts_1 s.vm T275.heap r_275 := Safe.keep K275 all0 Hr233.1 (Safe.new B275_1)
        have n_u_275 : Z.heap.size ≤ u_275 := Nat.le_trans O276.1 B275_2
        have z_u_275 : h0.size ≤ u_275 := Nat.le_trans (Nat.le_trans (Nat.le_refl _) K232.1) B275_2
        have s_u_275 : Safe Z consts_1 s.vm T275.heap u_275 := Safe.keep K275 all0 Hr233.1 (Safe.new B275_2)
        refine Go.astore (Ls' := #[.val (.int p1), .val (.int p2), .val (.int p3), .val (.int p4), .val (.int p5), .val (.int (3 : Int32)), .val (.int x0), .val (.int x1), .val (.int x2), .val (.int x3), .val (.ref r_232), .val (.int (0 : Int32)), .val (.ref o_275)]) (pc' := 122) C X275 at_120 rfl rfl rfl ?_
        refine Go.iload (pc' := 124) C X275 at_122 rfl rfl ?_
        refine Go.ifYes (pc' := 141) C X275 at_124 ((if0 _ _).trans (flt (x := (0 : Int32)) (y := (0 : Int32)) (by decide)).2.1) (by decide) (by decide) ?_
        refine Go.aload (pc' := 143) C X275 at_141 rfl rfl rfl ?_
        have O280 : Ext Z.heap T275.heap := (Ext.keep O276 K275 all0)
        refine Go.callV (y := mN27) (z := mN27) (a := o_275) (pc' := 146) C X275 (tw hw 76 rfl) (tw hw 77 rfl) (notFace_at C.2.1 (tw hw 79 rfl)) (tw hw 79 rfl) (tw hw 78 rfl) P275_0 (by decide) (rm_op1 l Z a0 hw o_275 r_275 T275.heap O280 P275_1) (tw hw 80 rfl) (tw hw 73 rfl) rfl (argsL := []) (rest := []) (W := 0) rfl rfl pd_13 rfl (Nat.le_of_eq rfl) rfl (by decide) (by decide) (by decide) (by decide) at_143 rfl ?_
        intro T279 v279 L279 X279 q279
        obtain ⟨rfl, rfl, e279⟩ := q279
        have N279 := Fr.app N275 (Fr.nil _)
        refine Go.ifYes (pc' := 151) C X279 at_146 ((if0 _ _).trans (feq (x := (1 : Int32)) (y := (0 : Int32)) (by decide)).2) (by decide) (by decide) ?_
        refine Go.aload (pc' := 153) C X279 at_151 rfl rfl rfl ?_
        refine Go.callV (y := mN26) (z := mN26) (a := o_275) (pc' := 156) C X279 (tw hw 132 rfl) (tw hw 133 rfl) (notFace_at C.2.1 (tw hw 135 rfl)) (tw hw 135 rfl) (tw hw 134 rfl) P275_0 (by decide) (rm_oge l Z a0 hw o_275 r_275 T275.heap O280 P275_1) (tw hw 136 rfl) (tw hw 73 rfl) e279 (argsL := []) (rest := []) (W := 0) rfl rfl pd_29 rfl (Nat.le_of_eq rfl) rfl (by decide) (by decide) (by decide) (by decide) at_153 rfl ?_
        intro T282 v282 L282 X282 q282
        obtain ⟨rfl, rfl, e282⟩ := q282
        have N282 := Fr.app N279 (Fr.nil _)
        refine Go.castY (pc' := 159) C X282 (tw hw 9 rfl) e282 (Ins.self P275_2) at_156 rfl ?_
        intro T283 X283 e283
        refine Go.iload (pc' := 161) C X283 at_159 rfl rfl ?_
        refine Go.iload (pc' := 163) C X283 at_161 rfl rfl ?_
        refine Go.iload (pc' := 165) C X283 at_163 rfl rfl ?_
        refine Go.iload (pc' := 167) C X283 at_165 rfl rfl ?_
        refine Go.iload (pc' := 169) C X283 at_167 rfl rfl ?_
        refine Go.iconst (z := (1 : Int32)) (pc' := 170) C X283 at_169 rfl rfl ?_
        refine Go.iadd (pc' := 171) C X283 at_170 rfl ?_
        rw [show ((0 : Int32) + (1 : Int32)) = (1 : Int32) from by decide]
        refine Go.iload (pc' := 173) C X283 at_171 rfl rfl ?_
        refine Go.callS (y := mN33) (pc' := 176) C X283 (tw hw 5 rfl) (tw hw 6 rfl) (by decide) (rm_st13 l Z a0 hw x0 x1 x2 x3 cP T275.heap O280 SC hP hx0 hx1 hx2 hx3) (tw hw 7 rfl) (tw hw 3 rfl) e283 (argsL := [(.int x0), (.int x1), (.int x2), (.int x3), (.int (1 : Int32)), (.int (3 : Int32))]) (rest := [(.ref r_275)]) (W := 1) rfl rfl pd_27 rfl (Nat.le_of_eq rfl) rfl (by decide) (by decide) (by decide) (by decide) at_173 rfl ?_
        intro T284 v284 L284 X284 q284
        obtain ⟨r_284, v_284, kv_284, rfl, N284q, K284, B284_0, B284_1, P284_0, P284_1, P284_2, P284_3⟩ := q284
        have N284 := Fr.app N282 N284q
        have Hr285 := CHr.trans Hr277 (CHr.keep K284 all0 Hr277.1)
        have n_r_284 : Z.heap.size ≤ r_284 := Nat.le_trans O280.1 B284_0
        have z_r_284 : h0.size ≤ r_284 := Nat.le_trans (Nat.le_trans (Nat.le_trans (Nat.le_refl _) K232.1) K275.1) B284_0
        have s_r_284 : Safe Z consts_1 s.vm T284.heap r_284 := Safe.keep K284 all0 Hr277.1 (Safe.new B284_0)
        have n_v_284 : Z.heap.size ≤ v_284 := Nat.le_trans O280.1 B284_1
        have z_v_284 : h0.size ≤ v_284 := Nat.le_trans (Nat.le_trans (Nat.le_trans (Nat.le_refl _) K232.1) K275.1) B284_1
        have s_v_284 : Safe Z consts_1 s.vm T284.heap v_284 := Safe.keep K284 all0 Hr277.1 (Safe.new B284_1)
        have c287 : Exa Z T284.heap r_275 "java/lang/String" := (Exa.keep P275_2 K284)
        have c288 : Fld Z T284.heap r_275 "java/lang/String" "value" "[B" (.ref u_275) := (Fld.keep P275_3 K284 nin0)
        have c289 : Fld Z T284.heap r_275 "java/lang/String" "coder" "B" (.int (0 : Int32)) := (Fld.keep P275_4 K284 nin0)
        have c290 : AL Z T284.heap u_275 ku_275 .byte (by8 [x1, x2]) := (AL.keep P275_5 K284 nin0)
        have ne291 : r_275 ≠ r_284 := Nat.ne_of_lt (Nat.lt_of_lt_of_le P275_2.lt (Nat.le_trans (Nat.le_refl _) B284_0))
        have O292 : Ext Z.heap T284.heap := (Ext.keep O280 K284 all0)
        refine Go.callV (y := mN6) (z := mN6) (a := r_275) (pc' := 179) C X284 (tw hw 137 rfl) (tw hw 138 rfl) (notFace_at C.2.1 (tw hw 140 rfl)) (tw hw 140 rfl) (tw hw 139 rfl) c287 (by decide) (rm_eqS l Z a0 hw r_275 r_284 u_275 v_284 ku_275 kv_284 ([x1, x2]) ([x1, x2]) cP T284.heap O292 SC c287 c288 c289 c290 P284_0 P284_1 P284_2 P284_3 ne291 hP (show (2 : Nat) < 2 ^ 31 from by decide) (show (2 : Nat) < 2 ^ 31 from by decide)) (tw hw 141 rfl) (tw hw 11 rfl) rfl (argsL := [(.ref r_284)]) (rest := []) (W := 0) rfl rfl pd_30 rfl (Nat.le_of_eq rfl) rfl (by decide) (by decide) (by decide) (by decide) at_176 rfl ?_
        intro T286 v286 L286 X286 q286
        obtain ⟨rfl, rfl, e286⟩ := q286
        have N286 := Fr.app N284 (Fr.nil _)
        have K293 : Keep h0 T284.heap [] := ((((Keep.refl h0 []).trans K232 all0).trans K275 all0).trans K284 all0)
        have Si294 : Sin s s T284.heap := Sin.mono Si0 (Nat.le_trans (Nat.le_trans (Nat.le_trans (Nat.le_refl _) K232.1) K275.1) K284.1)
        exact Go.retNH C X286 (by rw [e286]; exact Si294) (EWc hw) (by rw [e286]; exact Hr285) rfl at_179 (by simp) (by rw [e286]; exact ⟨(by rw [if_pos rfl]; rfl), N286, K293⟩) (by decide) (by decide)
      · refine Go.aload (pc' := 117) C X234 at_115 rfl rfl rfl ?_
        have O296 : Ext Z.heap T232.heap := (Ext.keep O0 K232 all0)
        refine Go.callS (y := mN30) (pc' := 120) C X234 (tw hw 30 rfl) (tw hw 31 rfl) (by decide) (rm_sc3m l Z a0 hw r_232 v_232 kv_232 x0 x1 x2 cP em T232.heap O296 P232_0 P232_1 P232_2 P232_3 SC SE hx0 hx1 hx2 qe0 qe1 qe2 hP) (tw hw 33 rfl) (tw hw 32 rfl) e234 (argsL := [(.ref r_232)]) (rest := []) (W := 0) rfl rfl pd_28 rfl (Nat.le_of_eq rfl) rfl (by decide) (by decide) (by decide) (by decide) at_117 rfl ?_
        intro T295 v295 L295 X295 q295
        obtain ⟨rfl, rfl, e295⟩ := q295
        have N295 := Fr.app N234 (Fr.nil _)
        refine Go.astore (Ls' := #[.val (.int p1), .val (.int p2), .val (.int p3), .val (.int p4), .val (.int p5), .val (.int (3 : Int32)), .val (.int x0), .val (.int x1), .val (.int x2), .val (.int x3), .val (.ref r_232), .val (.int (-1 : Int32)), .val (.ref em)]) (pc' := 122) C X295 at_120 rfl rfl rfl ?_
        refine Go.iload (pc' := 124) C X295 at_122 rfl rfl ?_
        refine Go.ifNo (pc' := 127) C X295 at_124 ((if0 _ _).trans (tlt (x := (-1 : Int32)) (y := (0 : Int32)) (by decide)).2.1) rfl ?_
        refine Go.aload (pc' := 129) C X295 at_127 rfl rfl rfl ?_
        refine Go.callV (y := mN27) (z := mN27) (a := em) (pc' := 132) C X295 (tw hw 76 rfl) (tw hw 77 rfl) (notFace_at C.2.1 (tw hw 79 rfl)) (tw hw 79 rfl) (tw hw 78 rfl) (Exa.ext O296 Ee) (by decide) (rm_op0 l Z a0 hw em T232.heap O296 Fe) (tw hw 80 rfl) (tw hw 73 rfl) e295 (argsL := []) (rest := []) (W := 0) rfl rfl pd_13 rfl (Nat.le_of_eq rfl) rfl (by decide) (by decide) (by decide) (by decide) at_129 rfl ?_
        intro T298 v298 L298 X298 q298
        obtain ⟨rfl, rfl, e298⟩ := q298
        have N298 := Fr.app N295 (Fr.nil _)
        refine Go.ifNo (pc' := 135) C X298 at_132 ((if0 _ _).trans (teq (x := (0 : Int32)) (y := (0 : Int32)) (by decide)).2) rfl ?_
        refine Go.iconst (z := (1 : Int32)) (pc' := 136) C X298 at_135 rfl rfl ?_
        refine Go.goto (pc' := 140) C X298 at_136 (by decide) (by decide) ?_
        have K300 : Keep h0 T232.heap [] := ((Keep.refl h0 []).trans K232 all0)
        have Si301 : Sin s s T232.heap := Sin.mono Si0 (Nat.le_trans (Nat.le_refl _) K232.1)
        exact Go.retNH C X298 (by rw [e298]; exact Si301) (EWc hw) (by rw [e298]; exact Hr233) rfl at_140 (by simp) (by rw [e298]; exact ⟨rfl, N298, K300⟩) (by decide) (by decide)
    refine Go.iconst (z := (-1 : Int32)) (pc' := 50) C X232 at_49 rfl rfl ?_
    refine Go.istore (Ls' := #[.val (.int p1), .val (.int p2), .val (.int p3), .val (.int p4), .val (.int p5), .val (.int (3 : Int32)), .val (.int x0), .val (.int x1), .val (.int x2), .val (.int x3), .val (.ref r_232), .val (.int (-1 : Int32)), .unset]) (pc' := 52) C X232 at_50 rfl rfl ?_
    refine Go.iload (pc' := 54) C X232 at_52 rfl rfl ?_
    refine Go.ifNo (pc' := 57) C X232 at_54 ((if0 _ _).trans (tlt (x := (0 : Int32)) (y := (3 : Int32)) (by decide)).2.2.2) rfl ?_
    refine Go.iload (pc' := 59) C X232 at_57 rfl rfl ?_
    refine Go.bipush (z := (64 : Int32)) (pc' := 61) C X232 at_59 rfl rfl ?_
    by_cases hc61_303 : x0 = (64 : Int32)
    · refine Go.icmpNo (pc' := 64) C X232 at_61 (teq (x := x0) (y := (64 : Int32)) hc61_303).2 rfl ?_
      refine Go.iconst (z := (0 : Int32)) (pc' := 65) C X232 at_64 rfl rfl ?_
      refine Go.istore (Ls' := #[.val (.int p1), .val (.int p2), .val (.int p3), .val (.int p4), .val (.int p5), .val (.int (3 : Int32)), .val (.int x0), .val (.int x1), .val (.int x2), .val (.int x3), .val (.ref r_232), .val (.int (0 : Int32)), .unset]) (pc' := 67) C X232 at_65 rfl rfl ?_
      refine Go.iload (pc' := 69) C X232 at_67 rfl rfl ?_
      refine Go.iconst (z := (1 : Int32)) (pc' := 70) C X232 at_69 rfl rfl ?_
      refine Go.icmpNo (pc' := 73) C X232 at_70 (tlt (x := (1 : Int32)) (y := (3 : Int32)) (by decide)).2.2.2 rfl ?_
      refine Go.iload (pc' := 75) C X232 at_73 rfl rfl ?_
      refine Go.bipush (z := (64 : Int32)) (pc' := 77) C X232 at_75 rfl rfl ?_
      by_cases hc77_305 : x1 = (64 : Int32)
      · refine Go.icmpNo (pc' := 80) C X232 at_77 (teq (x := x1) (y := (64 : Int32)) hc77_305).2 rfl ?_
        refine Go.iconst (z := (1 : Int32)) (pc' := 81) C X232 at_80 rfl rfl ?_
        refine Go.istore (Ls' := #[.val (.int p1), .val (.int p2), .val (.int p3), .val (.int p4), .val (.int p5), .val (.int (3 : Int32)), .val (.int x0), .val (.int x1), .val (.int x2), .val (.int x3), .val (.ref r_232), .val (.int (1 : Int32)), .unset]) (pc' := 83) C X232 at_81 rfl rfl ?_
        refine Go.iload (pc' := 85) C X232 at_83 rfl rfl ?_
        refine Go.iconst (z := (2 : Int32)) (pc' := 86) C X232 at_85 rfl rfl ?_
        refine Go.icmpNo (pc' := 89) C X232 at_86 (tlt (x := (2 : Int32)) (y := (3 : Int32)) (by decide)).2.2.2 rfl ?_
        refine Go.iload (pc' := 91) C X232 at_89 rfl rfl ?_
        refine Go.bipush (z := (64 : Int32)) (pc' := 93) C X232 at_91 rfl rfl ?_
        by_cases hc93_307 : x2 = (64 : Int32)
        · refine Go.icmpNo (pc' := 96) C X232 at_93 (teq (x := x2) (y := (64 : Int32)) hc93_307).2 rfl ?_
          refine Go.iconst (z := (2 : Int32)) (pc' := 97) C X232 at_96 rfl rfl ?_
          refine Go.istore (Ls' := #[.val (.int p1), .val (.int p2), .val (.int p3), .val (.int p4), .val (.int p5), .val (.int (3 : Int32)), .val (.int x0), .val (.int x1), .val (.int x2), .val (.int x3), .val (.ref r_232), .val (.int (2 : Int32)), .unset]) (pc' := 99) C X232 at_97 rfl rfl ?_
          refine Go.iload (pc' := 101) C X232 at_99 rfl rfl ?_
          refine Go.iconst (z := (3 : Int32)) (pc' := 102) C X232 at_101 rfl rfl ?_
          refine Go.icmpYes (pc' := 115) C X232 at_102 (flt (x := (3 : Int32)) (y := (3 : Int32)) (by decide)).2.2.2 (by decide) (by decide) ?_
          exact K115 _ _ X232 rfl N232 (2 : Int32) (Or.inl ⟨rfl, hc93_307⟩)
        · refine Go.icmpYes (pc' := 99) C X232 at_93 (feq (x := x2) (y := (64 : Int32)) hc93_307).2 (by decide) (by decide) ?_
          refine Go.iload (pc' := 101) C X232 at_99 rfl rfl ?_
          refine Go.iconst (z := (3 : Int32)) (pc' := 102) C X232 at_101 rfl rfl ?_
          refine Go.icmpYes (pc' := 115) C X232 at_102 (flt (x := (3 : Int32)) (y := (3 : Int32)) (by decide)).2.2.2 (by decide) (by decide) ?_
          exact K115 _ _ X232 rfl N232 (1 : Int32) (Or.inr (Or.inl ⟨rfl, hc77_305, hc93_307⟩))
      · refine Go.icmpYes (pc' := 83) C X232 at_77 (feq (x := x1) (y := (64 : Int32)) hc77_305).2 (by decide) (by decide) ?_
        refine Go.iload (pc' := 85) C X232 at_83 rfl rfl ?_
        refine Go.iconst (z := (2 : Int32)) (pc' := 86) C X232 at_85 rfl rfl ?_
        refine Go.icmpNo (pc' := 89) C X232 at_86 (tlt (x := (2 : Int32)) (y := (3 : Int32)) (by decide)).2.2.2 rfl ?_
        refine Go.iload (pc' := 91) C X232 at_89 rfl rfl ?_
        refine Go.bipush (z := (64 : Int32)) (pc' := 93) C X232 at_91 rfl rfl ?_
        by_cases hc93_311 : x2 = (64 : Int32)
        · refine Go.icmpNo (pc' := 96) C X232 at_93 (teq (x := x2) (y := (64 : Int32)) hc93_311).2 rfl ?_
          refine Go.iconst (z := (2 : Int32)) (pc' := 97) C X232 at_96 rfl rfl ?_
          refine Go.istore (Ls' := #[.val (.int p1), .val (.int p2), .val (.int p3), .val (.int p4), .val (.int p5), .val (.int (3 : Int32)), .val (.int x0), .val (.int x1), .val (.int x2), .val (.int x3), .val (.ref r_232), .val (.int (2 : Int32)), .unset]) (pc' := 99) C X232 at_97 rfl rfl ?_
          refine Go.iload (pc' := 101) C X232 at_99 rfl rfl ?_
          refine Go.iconst (z := (3 : Int32)) (pc' := 102) C X232 at_101 rfl rfl ?_
          refine Go.icmpYes (pc' := 115) C X232 at_102 (flt (x := (3 : Int32)) (y := (3 : Int32)) (by decide)).2.2.2 (by decide) (by decide) ?_
          exact K115 _ _ X232 rfl N232 (2 : Int32) (Or.inl ⟨rfl, hc93_311⟩)
        · refine Go.icmpYes (pc' := 99) C X232 at_93 (feq (x := x2) (y := (64 : Int32)) hc93_311).2 (by decide) (by decide) ?_
          refine Go.iload (pc' := 101) C X232 at_99 rfl rfl ?_
          refine Go.iconst (z := (3 : Int32)) (pc' := 102) C X232 at_101 rfl rfl ?_
          refine Go.icmpYes (pc' := 115) C X232 at_102 (flt (x := (3 : Int32)) (y := (3 : Int32)) (by decide)).2.2.2 (by decide) (by decide) ?_
          exact K115 _ _ X232 rfl N232 (0 : Int32) (Or.inr (Or.inr (Or.inl ⟨rfl, hc61_303, hc77_305, hc93_311⟩)))
    · refine Go.icmpYes (pc' := 67) C X232 at_61 (feq (x := x0) (y := (64 : Int32)) hc61_303).2 (by decide) (by decide) ?_
      refine Go.iload (pc' := 69) C X232 at_67 rfl rfl ?_
      refine Go.iconst (z := (1 : Int32)) (pc' := 70) C X232 at_69 rfl rfl ?_
      refine Go.icmpNo (pc' := 73) C X232 at_70 (tlt (x := (1 : Int32)) (y := (3 : Int32)) (by decide)).2.2.2 rfl ?_
      refine Go.iload (pc' := 75) C X232 at_73 rfl rfl ?_
      refine Go.bipush (z := (64 : Int32)) (pc' := 77) C X232 at_75 rfl rfl ?_
      by_cases hc77_315 : x1 = (64 : Int32)
      · refine Go.icmpNo (pc' := 80) C X232 at_77 (teq (x := x1) (y := (64 : Int32)) hc77_315).2 rfl ?_
        refine Go.iconst (z := (1 : Int32)) (pc' := 81) C X232 at_80 rfl rfl ?_
        refine Go.istore (Ls' := #[.val (.int p1), .val (.int p2), .val (.int p3), .val (.int p4), .val (.int p5), .val (.int (3 : Int32)), .val (.int x0), .val (.int x1), .val (.int x2), .val (.int x3), .val (.ref r_232), .val (.int (1 : Int32)), .unset]) (pc' := 83) C X232 at_81 rfl rfl ?_
        refine Go.iload (pc' := 85) C X232 at_83 rfl rfl ?_
        refine Go.iconst (z := (2 : Int32)) (pc' := 86) C X232 at_85 rfl rfl ?_
        refine Go.icmpNo (pc' := 89) C X232 at_86 (tlt (x := (2 : Int32)) (y := (3 : Int32)) (by decide)).2.2.2 rfl ?_
        refine Go.iload (pc' := 91) C X232 at_89 rfl rfl ?_
        refine Go.bipush (z := (64 : Int32)) (pc' := 93) C X232 at_91 rfl rfl ?_
        by_cases hc93_317 : x2 = (64 : Int32)
        · refine Go.icmpNo (pc' := 96) C X232 at_93 (teq (x := x2) (y := (64 : Int32)) hc93_317).2 rfl ?_
          refine Go.iconst (z := (2 : Int32)) (pc' := 97) C X232 at_96 rfl rfl ?_
          refine Go.istore (Ls' := #[.val (.int p1), .val (.int p2), .val (.int p3), .val (.int p4), .val (.int p5), .val (.int (3 : Int32)), .val (.int x0), .val (.int x1), .val (.int x2), .val (.int x3), .val (.ref r_232), .val (.int (2 : Int32)), .unset]) (pc' := 99) C X232 at_97 rfl rfl ?_
          refine Go.iload (pc' := 101) C X232 at_99 rfl rfl ?_
          refine Go.iconst (z := (3 : Int32)) (pc' := 102) C X232 at_101 rfl rfl ?_
          refine Go.icmpYes (pc' := 115) C X232 at_102 (flt (x := (3 : Int32)) (y := (3 : Int32)) (by decide)).2.2.2 (by decide) (by decide) ?_
          exact K115 _ _ X232 rfl N232 (2 : Int32) (Or.inl ⟨rfl, hc93_317⟩)
        · refine Go.icmpYes (pc' := 99) C X232 at_93 (feq (x := x2) (y := (64 : Int32)) hc93_317).2 (by decide) (by decide) ?_
          refine Go.iload (pc' := 101) C X232 at_99 rfl rfl ?_
          refine Go.iconst (z := (3 : Int32)) (pc' := 102) C X232 at_101 rfl rfl ?_
          refine Go.icmpYes (pc' := 115) C X232 at_102 (flt (x := (3 : Int32)) (y := (3 : Int32)) (by decide)).2.2.2 (by decide) (by decide) ?_
          exact K115 _ _ X232 rfl N232 (1 : Int32) (Or.inr (Or.inl ⟨rfl, hc77_315, hc93_317⟩))
      · refine Go.icmpYes (pc' := 83) C X232 at_77 (feq (x := x1) (y := (64 : Int32)) hc77_315).2 (by decide) (by decide) ?_
        refine Go.iload (pc' := 85) C X232 at_83 rfl rfl ?_
        refine Go.iconst (z := (2 : Int32)) (pc' := 86) C X232 at_85 rfl rfl ?_
        refine Go.icmpNo (pc' := 89) C X232 at_86 (tlt (x := (2 : Int32)) (y := (3 : Int32)) (by decide)).2.2.2 rfl ?_
        refine Go.iload (pc' := 91) C X232 at_89 rfl rfl ?_
        refine Go.bipush (z := (64 : Int32)) (pc' := 93) C X232 at_91 rfl rfl ?_
        by_cases hc93_321 : x2 = (64 : Int32)
        · refine Go.icmpNo (pc' := 96) C X232 at_93 (teq (x := x2) (y := (64 : Int32)) hc93_321).2 rfl ?_
          refine Go.iconst (z := (2 : Int32)) (pc' := 97) C X232 at_96 rfl rfl ?_
          refine Go.istore (Ls' := #[.val (.int p1), .val (.int p2), .val (.int p3), .val (.int p4), .val (.int p5), .val (.int (3 : Int32)), .val (.int x0), .val (.int x1), .val (.int x2), .val (.int x3), .val (.ref r_232), .val (.int (2 : Int32)), .unset]) (pc' := 99) C X232 at_97 rfl rfl ?_
          refine Go.iload (pc' := 101) C X232 at_99 rfl rfl ?_
          refine Go.iconst (z := (3 : Int32)) (pc' := 102) C X232 at_101 rfl rfl ?_
          refine Go.icmpYes (pc' := 115) C X232 at_102 (flt (x := (3 : Int32)) (y := (3 : Int32)) (by decide)).2.2.2 (by decide) (by decide) ?_
          exact K115 _ _ X232 rfl N232 (2 : Int32) (Or.inl ⟨rfl, hc93_321⟩)
        · refine Go.icmpYes (pc' := 99) C X232 at_93 (feq (x := x2) (y := (64 : Int32)) hc93_321).2 (by decide) (by decide) ?_
          refine Go.iload (pc' := 101) C X232 at_99 rfl rfl ?_
          refine Go.iconst (z := (3 : Int32)) (pc' := 102) C X232 at_101 rfl rfl ?_
          refine Go.icmpYes (pc' := 115) C X232 at_102 (flt (x := (3 : Int32)) (y := (3 : Int32)) (by decide)).2.2.2 (by decide) (by decide) ?_
          exact K115 _ _ X232 rfl N232 (-1 : Int32) (Or.inr (Or.inr (Or.inr ⟨rfl, hc61_303, hc77_315, hc93_321⟩)))
  · rw [hl]
    refine Go.istore (Ls' := #[.val (.int p1), .val (.int p2), .val (.int p3), .val (.int p4), .val (.int p5), .val (.int (4 : Int32)), .unset, .unset, .unset, .unset, .unset, .unset, .unset]) (pc' := 8) C X0 at_6 rfl rfl ?_
    refine Go.iloadN (pc' := 9) C X0 at_8 rfl rfl ?_
    refine Go.callS (y := mN31) (pc' := 12) C X0 (tw hw 1 rfl) (tw hw 2 rfl) (by decide) (rm_ch l Z a0 hw p2 h0 O0 ) (tw hw 4 rfl) (tw hw 3 rfl) e0 (argsL := [(.int p2)]) (rest := []) (W := 0) rfl rfl pd_26 rfl (Nat.le_of_eq rfl) rfl (by decide) (by decide) (by decide) (by decide) at_9 rfl ?_
    intro T324 v324 L324 X324 q324
    obtain ⟨r_324, rfl, rfl, e324, p324_0⟩ := q324
    have N324 := Fr.app N0 (Fr.nil _)
    refine Go.istore (Ls' := #[.val (.int p1), .val (.int p2), .val (.int p3), .val (.int p4), .val (.int p5), .val (.int (4 : Int32)), .val (.int r_324), .unset, .unset, .unset, .unset, .unset, .unset]) (pc' := 14) C X324 at_12 rfl rfl ?_
    refine Go.iloadN (pc' := 15) C X324 at_14 rfl rfl ?_
    refine Go.callS (y := mN31) (pc' := 18) C X324 (tw hw 1 rfl) (tw hw 2 rfl) (by decide) (rm_ch l Z a0 hw p3 h0 O0 ) (tw hw 4 rfl) (tw hw 3 rfl) e324 (argsL := [(.int p3)]) (rest := []) (W := 0) rfl rfl pd_26 rfl (Nat.le_of_eq rfl) rfl (by decide) (by decide) (by decide) (by decide) at_15 rfl ?_
    intro T325 v325 L325 X325 q325
    obtain ⟨r_325, rfl, rfl, e325, p325_0⟩ := q325
    have N325 := Fr.app N324 (Fr.nil _)
    refine Go.istore (Ls' := #[.val (.int p1), .val (.int p2), .val (.int p3), .val (.int p4), .val (.int p5), .val (.int (4 : Int32)), .val (.int r_324), .val (.int r_325), .unset, .unset, .unset, .unset, .unset]) (pc' := 20) C X325 at_18 rfl rfl ?_
    refine Go.iloadN (pc' := 21) C X325 at_20 rfl rfl ?_
    refine Go.callS (y := mN31) (pc' := 24) C X325 (tw hw 1 rfl) (tw hw 2 rfl) (by decide) (rm_ch l Z a0 hw p4 h0 O0 ) (tw hw 4 rfl) (tw hw 3 rfl) e325 (argsL := [(.int p4)]) (rest := []) (W := 0) rfl rfl pd_26 rfl (Nat.le_of_eq rfl) rfl (by decide) (by decide) (by decide) (by decide) at_21 rfl ?_
    intro T326 v326 L326 X326 q326
    obtain ⟨r_326, rfl, rfl, e326, p326_0⟩ := q326
    have N326 := Fr.app N325 (Fr.nil _)
    refine Go.istore (Ls' := #[.val (.int p1), .val (.int p2), .val (.int p3), .val (.int p4), .val (.int p5), .val (.int (4 : Int32)), .val (.int r_324), .val (.int r_325), .val (.int r_326), .unset, .unset, .unset, .unset]) (pc' := 26) C X326 at_24 rfl rfl ?_
    refine Go.iload (pc' := 28) C X326 at_26 rfl rfl ?_
    refine Go.callS (y := mN31) (pc' := 31) C X326 (tw hw 1 rfl) (tw hw 2 rfl) (by decide) (rm_ch l Z a0 hw p5 h0 O0 ) (tw hw 4 rfl) (tw hw 3 rfl) e326 (argsL := [(.int p5)]) (rest := []) (W := 0) rfl rfl pd_26 rfl (Nat.le_of_eq rfl) rfl (by decide) (by decide) (by decide) (by decide) at_28 rfl ?_
    intro T327 v327 L327 X327 q327
    obtain ⟨r_327, rfl, rfl, e327, p327_0⟩ := q327
    have N327 := Fr.app N326 (Fr.nil _)
    refine Go.istore (Ls' := #[.val (.int p1), .val (.int p2), .val (.int p3), .val (.int p4), .val (.int p5), .val (.int (4 : Int32)), .val (.int r_324), .val (.int r_325), .val (.int r_326), .val (.int r_327), .unset, .unset, .unset]) (pc' := 33) C X327 at_31 rfl rfl ?_
    obtain ⟨x0, hz0⟩ : ∃ z, z = r_324 := ⟨_, rfl⟩
    subst hz0
    have hx0 := p324_0
    obtain ⟨x1, hz1⟩ : ∃ z, z = r_325 := ⟨_, rfl⟩
    subst hz1
    have hx1 := p325_0
    obtain ⟨x2, hz2⟩ : ∃ z, z = r_326 := ⟨_, rfl⟩
    subst hz2
    have hx2 := p326_0
    obtain ⟨x3, hz3⟩ : ∃ z, z = r_327 := ⟨_, rfl⟩
    subst hz3
    have hx3 := p327_0
    refine Go.iload (pc' := 35) C X327 at_33 rfl rfl ?_
    refine Go.iload (pc' := 37) C X327 at_35 rfl rfl ?_
    refine Go.iload (pc' := 39) C X327 at_37 rfl rfl ?_
    refine Go.iload (pc' := 41) C X327 at_39 rfl rfl ?_
    refine Go.iconst (z := (0 : Int32)) (pc' := 42) C X327 at_41 rfl rfl ?_
    refine Go.iload (pc' := 44) C X327 at_42 rfl rfl ?_
    refine Go.callS (y := mN33) (pc' := 47) C X327 (tw hw 5 rfl) (tw hw 6 rfl) (by decide) (rm_st04 l Z a0 hw x0 x1 x2 x3 cP h0 O0 SC hP hx0 hx1 hx2 hx3) (tw hw 7 rfl) (tw hw 3 rfl) e327 (argsL := [(.int x0), (.int x1), (.int x2), (.int x3), (.int (0 : Int32)), (.int (4 : Int32))]) (rest := []) (W := 0) rfl rfl pd_27 rfl (Nat.le_of_eq rfl) rfl (by decide) (by decide) (by decide) (by decide) at_44 rfl ?_
    intro T328 v328 L328 X328 q328
    obtain ⟨r_328, v_328, kv_328, rfl, N328q, K328, B328_0, B328_1, P328_0, P328_1, P328_2, P328_3⟩ := q328
    have N328 := Fr.app N327 N328q
    have Hr329 := CHr.trans Hr0 (CHr.keep K328 all0 Hr0.1)
    have n_r_328 : Z.heap.size ≤ r_328 := Nat.le_trans O0.1 B328_0
    have z_r_328 : h0.size ≤ r_328 := Nat.le_trans (Nat.le_refl _) B328_0
    have s_r_328 : Safe Z consts_1 s.vm T328.heap r_328 := Safe.keep K328 all0 Hr0.1 (Safe.new B328_0)
    have n_v_328 : Z.heap.size ≤ v_328 := Nat.le_trans O0.1 B328_1
    have z_v_328 : h0.size ≤ v_328 := Nat.le_trans (Nat.le_refl _) B328_1
    have s_v_328 : Safe Z consts_1 s.vm T328.heap v_328 := Safe.keep K328 all0 Hr0.1 (Safe.new B328_1)
    refine Go.astore (Ls' := #[.val (.int p1), .val (.int p2), .val (.int p3), .val (.int p4), .val (.int p5), .val (.int (4 : Int32)), .val (.int x0), .val (.int x1), .val (.int x2), .val (.int x3), .val (.ref r_328), .unset, .unset]) (pc' := 49) C X328 at_47 rfl rfl rfl ?_
    have K115 : ∀ (T330 : State) (L330 : List Loc), Stand p l e room_1 s m #[(.int p1), (.int p2), (.int p3), (.int p4), (.int p5)] below meth c T330 L330 3 12 → T330.heap = T328.heap → Fr Z.heap.size L330 → ∀ (la : Int32), ((la = (3 : Int32) ∧ x3 = (64 : Int32)) ∨ (la = (2 : Int32) ∧ x2 = (64 : Int32) ∧ ¬ x3 = (64 : Int32)) ∨ (la = (1 : Int32) ∧ x1 = (64 : Int32) ∧ ¬ x2 = (64 : Int32) ∧ ¬ x3 = (64 : Int32)) ∨ (la = (0 : Int32) ∧ x0 = (64 : Int32) ∧ ¬ x1 = (64 : Int32) ∧ ¬ x2 = (64 : Int32) ∧ ¬ x3 = (64 : Int32)) ∨ (la = (-1 : Int32) ∧ ¬ x0 = (64 : Int32) ∧ ¬ x1 = (64 : Int32) ∧ ¬ x2 = (64 : Int32) ∧ ¬ x3 = (64 : Int32))) → Go p e below (FnH Z consts_1 s h0 room_1.cells room_1.slots (Q_law Z p1 p2 p3 p4 p5 cP fm em h0)) T330 (mkF m 115 #[.val (.int p1), .val (.int p2), .val (.int p3), .val (.int p4), .val (.int p5), .val (.int (4 : Int32)), .val (.int x0), .val (.int x1), .val (.int x2), .val (.int x3), .val (.ref r_328), .val (.int la), .unset] []) := by
      intro T330 L330 X330 e330 N330 la hla
      rcases hla with ⟨rfl, qe3⟩ | ⟨rfl, qe2, qe3⟩ | ⟨rfl, qe1, qe2, qe3⟩ | ⟨rfl, qe0, qe1, qe2, qe3⟩ | ⟨rfl, qe0, qe1, qe2, qe3⟩
      · refine Go.aload (pc' := 117) C X330 at_115 rfl rfl rfl ?_
        have O332 : Ext Z.heap T328.heap := (Ext.keep O0 K328 all0)
        have Si333 : Sin s s T328.heap := Sin.mono Si0 (Nat.le_trans (Nat.le_refl _) K328.1)
        refine Go.callSH (y := mN30) (pc' := 120) C X330 Si333 (EWc hw) Hr329.1 (tw hw 30 rfl) (tw hw 31 rfl) (by decide) all0 (rm_sc43 l Z a0 hw r_328 v_328 kv_328 x0 x1 x2 x3 cP fm T328.heap O332 P328_0 P328_1 P328_2 P328_3 SC SF hx0 hx1 hx2 hx3 qe3 hP hfm) (tw hw 33 rfl) (tw hw 32 rfl) e330 (argsL := [(.ref r_328)]) (rest := []) (W := 0) rfl rfl pd_28 rfl (Nat.le_of_eq rfl) rfl (by decide) (by decide) (by decide) (by decide) at_117 rfl ?_
        intro T331 v331 L331 sC331 C331 X331 Si331 hR331 q331
        obtain ⟨o_331, r_331, u_331, ku_331, rfl, N331q, K331, B331_0, P331_0, P331_1, P331_2, P331_3, P331_4, P331_5⟩ := q331
        have N331 := Fr.app N330 N331q
        have Hr334 := CHr.trans Hr329 hR331
        have n_o_331 : Z.heap.size ≤ o_331 := Nat.le_trans O332.1 B331_0
        have z_o_331 : h0.size ≤ o_331 := Nat.le_trans (Nat.le_trans (Nat.le_refl _) K328.1) B331_0
        refine Go.astore (Ls' := #[.val (.int p1), .val (.int p2), .val (.int p3), .val (.int p4), .val (.int p5), .val (.int (4 : Int32)), .val (.int x0), .val (.int x1), .val (.int x2), .val (.int x3), .val (.ref r_328), .val (.int (3 : Int32)), .val (.ref o_331)]) (pc' := 122) C331 X331 at_120 rfl rfl rfl ?_
        refine Go.iload (pc' := 124) C331 X331 at_122 rfl rfl ?_
        refine Go.ifYes (pc' := 141) C331 X331 at_124 ((if0 _ _).trans (flt (x := (3 : Int32)) (y := (0 : Int32)) (by decide)).2.1) (by decide) (by decide) ?_
        refine Go.aload (pc' := 143) C331 X331 at_141 rfl rfl rfl ?_
        have O337 : Ext Z.heap T331.heap := (Ext.keep O332 K331 all0)
        refine Go.callV (y := mN27) (z := mN27) (a := o_331) (pc' := 146) C331 X331 (tw hw 76 rfl) (tw hw 77 rfl) (notFace_at C331.2.1 (tw hw 79 rfl)) (tw hw 79 rfl) (tw hw 78 rfl) P331_0 (by decide) (rm_op1 l Z a0 hw o_331 r_331 T331.heap O337 P331_1) (tw hw 80 rfl) (tw hw 73 rfl) rfl (argsL := []) (rest := []) (W := 0) rfl rfl pd_13 rfl (Nat.le_of_eq rfl) rfl (by decide) (by decide) (by decide) (by decide) at_143 rfl ?_
        intro T336 v336 L336 X336 q336
        obtain ⟨rfl, rfl, e336⟩ := q336
        have N336 := Fr.app N331 (Fr.nil _)
        refine Go.ifYes (pc' := 151) C331 X336 at_146 ((if0 _ _).trans (feq (x := (1 : Int32)) (y := (0 : Int32)) (by decide)).2) (by decide) (by decide) ?_
        refine Go.aload (pc' := 153) C331 X336 at_151 rfl rfl rfl ?_
        refine Go.callV (y := mN26) (z := mN26) (a := o_331) (pc' := 156) C331 X336 (tw hw 132 rfl) (tw hw 133 rfl) (notFace_at C331.2.1 (tw hw 135 rfl)) (tw hw 135 rfl) (tw hw 134 rfl) P331_0 (by decide) (rm_oge l Z a0 hw o_331 r_331 T331.heap O337 P331_1) (tw hw 136 rfl) (tw hw 73 rfl) e336 (argsL := []) (rest := []) (W := 0) rfl rfl pd_29 rfl (Nat.le_of_eq rfl) rfl (by decide) (by decide) (by decide) (by decide) at_153 rfl ?_
        intro T339 v339 L339 X339 q339
        obtain ⟨rfl, rfl, e339⟩ := q339
        have N339 := Fr.app N336 (Fr.nil _)
        refine Go.castY (pc' := 159) C331 X339 (tw hw 9 rfl) e339 (Ins.self P331_2) at_156 rfl ?_
        intro T340 X340 e340
        refine Go.iload (pc' := 161) C331 X340 at_159 rfl rfl ?_
        refine Go.iload (pc' := 163) C331 X340 at_161 rfl rfl ?_
        refine Go.iload (pc' := 165) C331 X340 at_163 rfl rfl ?_
        refine Go.iload (pc' := 167) C331 X340 at_165 rfl rfl ?_
        refine Go.iload (pc' := 169) C331 X340 at_167 rfl rfl ?_
        refine Go.iconst (z := (1 : Int32)) (pc' := 170) C331 X340 at_169 rfl rfl ?_
        refine Go.iadd (pc' := 171) C331 X340 at_170 rfl ?_
        rw [show ((3 : Int32) + (1 : Int32)) = (4 : Int32) from by decide]
        refine Go.iload (pc' := 173) C331 X340 at_171 rfl rfl ?_
        refine Go.callSH (y := mN33) (pc' := 176) C331 X340 Si331 (EWc hw) Hr334.1 (tw hw 5 rfl) (tw hw 6 rfl) (by decide) all0 (rm_st44 l Z a0 hw x0 x1 x2 x3 T331.heap O337 ) (tw hw 7 rfl) (tw hw 3 rfl) e340 (argsL := [(.int x0), (.int x1), (.int x2), (.int x3), (.int (4 : Int32)), (.int (4 : Int32))]) (rest := [(.ref r_331)]) (W := 1) rfl rfl pd_27 rfl (Nat.le_of_eq rfl) rfl (by decide) (by decide) (by decide) (by decide) at_173 rfl ?_
        intro T341 v341 L341 sC341 C341 X341 Si341 hR341 q341
        obtain ⟨r_341, v_341, kv_341, rfl, N341q, K341, B341_0, P341_0, P341_1, P341_2, P341_3⟩ := q341
        have N341 := Fr.app N339 N341q
        have Hr342 := CHr.trans Hr334 hR341
        have n_r_341 : Z.heap.size ≤ r_341 := Nat.le_trans O337.1 B341_0
        have z_r_341 : h0.size ≤ r_341 := Nat.le_trans (Nat.le_trans (Nat.le_trans (Nat.le_refl _) K328.1) K331.1) B341_0
        have c344 : Exa Z T341.heap r_331 "java/lang/String" := (Exa.keep P331_2 K341)
        have c345 : Fld Z T341.heap r_331 "java/lang/String" "value" "[B" (.ref u_331) := (Fld.keep P331_3 K341 nin0)
        have c346 : Fld Z T341.heap r_331 "java/lang/String" "coder" "B" (.int (0 : Int32)) := (Fld.keep P331_4 K341 nin0)
        have c347 : AL Z T341.heap u_331 ku_331 .byte (by8 []) := (AL.keep P331_5 K341 nin0)
        have ne348 : r_331 ≠ r_341 := Nat.ne_of_lt (Nat.lt_of_lt_of_le P331_2.lt (Nat.le_trans (Nat.le_refl _) B341_0))
        have O349 : Ext Z.heap T341.heap := (Ext.keep O337 K341 all0)
        refine Go.callV (y := mN6) (z := mN6) (a := r_331) (pc' := 179) C341 X341 (tw hw 137 rfl) (tw hw 138 rfl) (notFace_at C341.2.1 (tw hw 140 rfl)) (tw hw 140 rfl) (tw hw 139 rfl) c344 (by decide) (rm_eqS l Z a0 hw r_331 r_341 u_331 v_341 ku_331 kv_341 [] [] cP T341.heap O349 SC c344 c345 c346 c347 P341_0 P341_1 P341_2 P341_3 ne348 hP (show (0 : Nat) < 2 ^ 31 from by decide) (show (0 : Nat) < 2 ^ 31 from by decide)) (tw hw 141 rfl) (tw hw 11 rfl) rfl (argsL := [(.ref r_341)]) (rest := []) (W := 0) rfl rfl pd_30 rfl (Nat.le_of_eq rfl) rfl (by decide) (by decide) (by decide) (by decide) at_176 rfl ?_
        intro T343 v343 L343 X343 q343
        obtain ⟨rfl, rfl, e343⟩ := q343
        have N343 := Fr.app N341 (Fr.nil _)
        have K350 : Keep h0 T341.heap [] := ((((Keep.refl h0 []).trans K328 all0).trans K331 all0).trans K341 all0)
        exact Go.retNH C341 X343 (by rw [e343]; exact Si341) (EWc hw) (by rw [e343]; exact Hr342) rfl at_179 (by simp) (by rw [e343]; exact ⟨(by rw [if_pos rfl]; rfl), N343, K350⟩) (by decide) (by decide)
      · refine Go.aload (pc' := 117) C X330 at_115 rfl rfl rfl ?_
        have O352 : Ext Z.heap T328.heap := (Ext.keep O0 K328 all0)
        refine Go.callS (y := mN30) (pc' := 120) C X330 (tw hw 30 rfl) (tw hw 31 rfl) (by decide) (rm_sc42 l Z a0 hw r_328 v_328 kv_328 x0 x1 x2 x3 cP fm T328.heap O352 P328_0 P328_1 P328_2 P328_3 SC SF hx0 hx1 hx2 hx3 qe2 qe3 hP hfm) (tw hw 33 rfl) (tw hw 32 rfl) e330 (argsL := [(.ref r_328)]) (rest := []) (W := 0) rfl rfl pd_28 rfl (Nat.le_of_eq rfl) rfl (by decide) (by decide) (by decide) (by decide) at_117 rfl ?_
        intro T351 v351 L351 X351 q351
        obtain ⟨o_351, r_351, u_351, ku_351, rfl, N351q, K351, B351_0, B351_1, B351_2, P351_0, P351_1, P351_2, P351_3, P351_4, P351_5⟩ := q351
        have N351 := Fr.app N330 N351q
        have Hr353 := CHr.trans Hr329 (CHr.keep K351 all0 Hr329.1)
        have n_o_351 : Z.heap.size ≤ o_351 := Nat.le_trans O352.1 B351_0
        have z_o_351 : h0.size ≤ o_351 := Nat.le_trans (Nat.le_trans (Nat.le_refl _) K328.1) B351_0
        have s_o_351 : Safe Z consts_1 s.vm T351.heap o_351 := Safe.keep K351 all0 Hr329.1 (Safe.new B351_0)
        have n_r_351 : Z.heap.size ≤ r_351 := Nat.le_trans O352.1 B351_1
        have z_r_351 : h0.size ≤ r_351 := Nat.le_trans (Nat.le_trans (Nat.le_refl _) K328.1) B351_1
        have s_r_351 : Safe Z consts_1 s.vm T351.heap r_351 := Safe.keep K351 all0 Hr329.1 (Safe.new B351_1)
        have n_u_351 : Z.heap.size ≤ u_351 := Nat.le_trans O352.1 B351_2
        have z_u_351 : h0.size ≤ u_351 := Nat.le_trans (Nat.le_trans (Nat.le_refl _) K328.1) B351_2
        have s_u_351 : Safe Z consts_1 s.vm T351.heap u_351 := Safe.keep K351 all0 Hr329.1 (Safe.new B351_2)
        refine Go.astore (Ls' := #[.val (.int p1), .val (.int p2), .val (.int p3), .val (.int p4), .val (.int p5), .val (.int (4 : Int32)), .val (.int x0), .val (.int x1), .val (.int x2), .val (.int x3), .val (.ref r_328), .val (.int (2 : Int32)), .val (.ref o_351)]) (pc' := 122) C X351 at_120 rfl rfl rfl ?_
        refine Go.iload (pc' := 124) C X351 at_122 rfl rfl ?_
        refine Go.ifYes (pc' := 141) C X351 at_124 ((if0 _ _).trans (flt (x := (2 : Int32)) (y := (0 : Int32)) (by decide)).2.1) (by decide) (by decide) ?_
        refine Go.aload (pc' := 143) C X351 at_141 rfl rfl rfl ?_
        have O356 : Ext Z.heap T351.heap := (Ext.keep O352 K351 all0)
        refine Go.callV (y := mN27) (z := mN27) (a := o_351) (pc' := 146) C X351 (tw hw 76 rfl) (tw hw 77 rfl) (notFace_at C.2.1 (tw hw 79 rfl)) (tw hw 79 rfl) (tw hw 78 rfl) P351_0 (by decide) (rm_op1 l Z a0 hw o_351 r_351 T351.heap O356 P351_1) (tw hw 80 rfl) (tw hw 73 rfl) rfl (argsL := []) (rest := []) (W := 0) rfl rfl pd_13 rfl (Nat.le_of_eq rfl) rfl (by decide) (by decide) (by decide) (by decide) at_143 rfl ?_
        intro T355 v355 L355 X355 q355
        obtain ⟨rfl, rfl, e355⟩ := q355
        have N355 := Fr.app N351 (Fr.nil _)
        refine Go.ifYes (pc' := 151) C X355 at_146 ((if0 _ _).trans (feq (x := (1 : Int32)) (y := (0 : Int32)) (by decide)).2) (by decide) (by decide) ?_
        refine Go.aload (pc' := 153) C X355 at_151 rfl rfl rfl ?_
        refine Go.callV (y := mN26) (z := mN26) (a := o_351) (pc' := 156) C X355 (tw hw 132 rfl) (tw hw 133 rfl) (notFace_at C.2.1 (tw hw 135 rfl)) (tw hw 135 rfl) (tw hw 134 rfl) P351_0 (by decide) (rm_oge l Z a0 hw o_351 r_351 T351.heap O356 P351_1) (tw hw 136 rfl) (tw hw 73 rfl) e355 (argsL := []) (rest := []) (W := 0) rfl rfl pd_29 rfl (Nat.le_of_eq rfl) rfl (by decide) (by decide) (by decide) (by decide) at_153 rfl ?_
        intro T358 v358 L358 X358 q358
        obtain ⟨rfl, rfl, e358⟩ := q358
        have N358 := Fr.app N355 (Fr.nil _)
        refine Go.castY (pc' := 159) C X358 (tw hw 9 rfl) e358 (Ins.self P351_2) at_156 rfl ?_
        intro T359 X359 e359
        refine Go.iload (pc' := 161) C X359 at_159 rfl rfl ?_
        refine Go.iload (pc' := 163) C X359 at_161 rfl rfl ?_
        refine Go.iload (pc' := 165) C X359 at_163 rfl rfl ?_
        refine Go.iload (pc' := 167) C X359 at_165 rfl rfl ?_
        refine Go.iload (pc' := 169) C X359 at_167 rfl rfl ?_
        refine Go.iconst (z := (1 : Int32)) (pc' := 170) C X359 at_169 rfl rfl ?_
        refine Go.iadd (pc' := 171) C X359 at_170 rfl ?_
        rw [show ((2 : Int32) + (1 : Int32)) = (3 : Int32) from by decide]
        refine Go.iload (pc' := 173) C X359 at_171 rfl rfl ?_
        refine Go.callS (y := mN33) (pc' := 176) C X359 (tw hw 5 rfl) (tw hw 6 rfl) (by decide) (rm_st34 l Z a0 hw x0 x1 x2 x3 cP T351.heap O356 SC hP hx0 hx1 hx2 hx3) (tw hw 7 rfl) (tw hw 3 rfl) e359 (argsL := [(.int x0), (.int x1), (.int x2), (.int x3), (.int (3 : Int32)), (.int (4 : Int32))]) (rest := [(.ref r_351)]) (W := 1) rfl rfl pd_27 rfl (Nat.le_of_eq rfl) rfl (by decide) (by decide) (by decide) (by decide) at_173 rfl ?_
        intro T360 v360 L360 X360 q360
        obtain ⟨r_360, v_360, kv_360, rfl, N360q, K360, B360_0, B360_1, P360_0, P360_1, P360_2, P360_3⟩ := q360
        have N360 := Fr.app N358 N360q
        have Hr361 := CHr.trans Hr353 (CHr.keep K360 all0 Hr353.1)
        have n_r_360 : Z.heap.size ≤ r_360 := Nat.le_trans O356.1 B360_0
        have z_r_360 : h0.size ≤ r_360 := Nat.le_trans (Nat.le_trans (Nat.le_trans (Nat.le_refl _) K328.1) K351.1) B360_0
        have s_r_360 : Safe Z consts_1 s.vm T360.heap r_360 := Safe.keep K360 all0 Hr353.1 (Safe.new B360_0)
        have n_v_360 : Z.heap.size ≤ v_360 := Nat.le_trans O356.1 B360_1
        have z_v_360 : h0.size ≤ v_360 := Nat.le_trans (Nat.le_trans (Nat.le_trans (Nat.le_refl _) K328.1) K351.1) B360_1
        have s_v_360 : Safe Z consts_1 s.vm T360.heap v_360 := Safe.keep K360 all0 Hr353.1 (Safe.new B360_1)
        have c363 : Exa Z T360.heap r_351 "java/lang/String" := (Exa.keep P351_2 K360)
        have c364 : Fld Z T360.heap r_351 "java/lang/String" "value" "[B" (.ref u_351) := (Fld.keep P351_3 K360 nin0)
        have c365 : Fld Z T360.heap r_351 "java/lang/String" "coder" "B" (.int (0 : Int32)) := (Fld.keep P351_4 K360 nin0)
        have c366 : AL Z T360.heap u_351 ku_351 .byte (by8 [x3]) := (AL.keep P351_5 K360 nin0)
        have ne367 : r_351 ≠ r_360 := Nat.ne_of_lt (Nat.lt_of_lt_of_le P351_2.lt (Nat.le_trans (Nat.le_refl _) B360_0))
        have O368 : Ext Z.heap T360.heap := (Ext.keep O356 K360 all0)
        refine Go.callV (y := mN6) (z := mN6) (a := r_351) (pc' := 179) C X360 (tw hw 137 rfl) (tw hw 138 rfl) (notFace_at C.2.1 (tw hw 140 rfl)) (tw hw 140 rfl) (tw hw 139 rfl) c363 (by decide) (rm_eqS l Z a0 hw r_351 r_360 u_351 v_360 ku_351 kv_360 [x3] [x3] cP T360.heap O368 SC c363 c364 c365 c366 P360_0 P360_1 P360_2 P360_3 ne367 hP (show (1 : Nat) < 2 ^ 31 from by decide) (show (1 : Nat) < 2 ^ 31 from by decide)) (tw hw 141 rfl) (tw hw 11 rfl) rfl (argsL := [(.ref r_360)]) (rest := []) (W := 0) rfl rfl pd_30 rfl (Nat.le_of_eq rfl) rfl (by decide) (by decide) (by decide) (by decide) at_176 rfl ?_
        intro T362 v362 L362 X362 q362
        obtain ⟨rfl, rfl, e362⟩ := q362
        have N362 := Fr.app N360 (Fr.nil _)
        have K369 : Keep h0 T360.heap [] := ((((Keep.refl h0 []).trans K328 all0).trans K351 all0).trans K360 all0)
        have Si370 : Sin s s T360.heap := Sin.mono Si0 (Nat.le_trans (Nat.le_trans (Nat.le_trans (Nat.le_refl _) K328.1) K351.1) K360.1)
        exact Go.retNH C X362 (by rw [e362]; exact Si370) (EWc hw) (by rw [e362]; exact Hr361) rfl at_179 (by simp) (by rw [e362]; exact ⟨(by rw [if_pos rfl]; rfl), N362, K369⟩) (by decide) (by decide)
      · refine Go.aload (pc' := 117) C X330 at_115 rfl rfl rfl ?_
        have O372 : Ext Z.heap T328.heap := (Ext.keep O0 K328 all0)
        refine Go.callS (y := mN30) (pc' := 120) C X330 (tw hw 30 rfl) (tw hw 31 rfl) (by decide) (rm_sc41 l Z a0 hw r_328 v_328 kv_328 x0 x1 x2 x3 cP fm T328.heap O372 P328_0 P328_1 P328_2 P328_3 SC SF hx0 hx1 hx2 hx3 qe1 qe2 qe3 hP hfm) (tw hw 33 rfl) (tw hw 32 rfl) e330 (argsL := [(.ref r_328)]) (rest := []) (W := 0) rfl rfl pd_28 rfl (Nat.le_of_eq rfl) rfl (by decide) (by decide) (by decide) (by decide) at_117 rfl ?_
        intro T371 v371 L371 X371 q371
        obtain ⟨o_371, r_371, u_371, ku_371, rfl, N371q, K371, B371_0, B371_1, B371_2, P371_0, P371_1, P371_2, P371_3, P371_4, P371_5⟩ := q371
        have N371 := Fr.app N330 N371q
        have Hr373 := CHr.trans Hr329 (CHr.keep K371 all0 Hr329.1)
        have n_o_371 : Z.heap.size ≤ o_371 := Nat.le_trans O372.1 B371_0
        have z_o_371 : h0.size ≤ o_371 := Nat.le_trans (Nat.le_trans (Nat.le_refl _) K328.1) B371_0
        have s_o_371 : Safe Z consts_1 s.vm T371.heap o_371 := Safe.keep K371 all0 Hr329.1 (Safe.new B371_0)
        have n_r_371 : Z.heap.size ≤ r_371 := Nat.le_trans O372.1 B371_1
        have z_r_371 : h0.size ≤ r_371 := Nat.le_trans (Nat.le_trans (Nat.le_refl _) K328.1) B371_1
        have s_r_371 : Safe Z consts_1 s.vm T371.heap r_371 := Safe.keep K371 all0 Hr329.1 (Safe.new B371_1)
        have n_u_371 : Z.heap.size ≤ u_371 := Nat.le_trans O372.1 B371_2
        have z_u_371 : h0.size ≤ u_371 := Nat.le_trans (Nat.le_trans (Nat.le_refl _) K328.1) B371_2
        have s_u_371 : Safe Z consts_1 s.vm T371.heap u_371 := Safe.keep K371 all0 Hr329.1 (Safe.new B371_2)
        refine Go.astore (Ls' := #[.val (.int p1), .val (.int p2), .val (.int p3), .val (.int p4), .val (.int p5), .val (.int (4 : Int32)), .val (.int x0), .val (.int x1), .val (.int x2), .val (.int x3), .val (.ref r_328), .val (.int (1 : Int32)), .val (.ref o_371)]) (pc' := 122) C X371 at_120 rfl rfl rfl ?_
        refine Go.iload (pc' := 124) C X371 at_122 rfl rfl ?_
        refine Go.ifYes (pc' := 141) C X371 at_124 ((if0 _ _).trans (flt (x := (1 : Int32)) (y := (0 : Int32)) (by decide)).2.1) (by decide) (by decide) ?_
        refine Go.aload (pc' := 143) C X371 at_141 rfl rfl rfl ?_
        have O376 : Ext Z.heap T371.heap := (Ext.keep O372 K371 all0)
        refine Go.callV (y := mN27) (z := mN27) (a := o_371) (pc' := 146) C X371 (tw hw 76 rfl) (tw hw 77 rfl) (notFace_at C.2.1 (tw hw 79 rfl)) (tw hw 79 rfl) (tw hw 78 rfl) P371_0 (by decide) (rm_op1 l Z a0 hw o_371 r_371 T371.heap O376 P371_1) (tw hw 80 rfl) (tw hw 73 rfl) rfl (argsL := []) (rest := []) (W := 0) rfl rfl pd_13 rfl (Nat.le_of_eq rfl) rfl (by decide) (by decide) (by decide) (by decide) at_143 rfl ?_
        intro T375 v375 L375 X375 q375
        obtain ⟨rfl, rfl, e375⟩ := q375
        have N375 := Fr.app N371 (Fr.nil _)
        refine Go.ifYes (pc' := 151) C X375 at_146 ((if0 _ _).trans (feq (x := (1 : Int32)) (y := (0 : Int32)) (by decide)).2) (by decide) (by decide) ?_
        refine Go.aload (pc' := 153) C X375 at_151 rfl rfl rfl ?_
        refine Go.callV (y := mN26) (z := mN26) (a := o_371) (pc' := 156) C X375 (tw hw 132 rfl) (tw hw 133 rfl) (notFace_at C.2.1 (tw hw 135 rfl)) (tw hw 135 rfl) (tw hw 134 rfl) P371_0 (by decide) (rm_oge l Z a0 hw o_371 r_371 T371.heap O376 P371_1) (tw hw 136 rfl) (tw hw 73 rfl) e375 (argsL := []) (rest := []) (W := 0) rfl rfl pd_29 rfl (Nat.le_of_eq rfl) rfl (by decide) (by decide) (by decide) (by decide) at_153 rfl ?_
        intro T378 v378 L378 X378 q378
        obtain ⟨rfl, rfl, e378⟩ := q378
        have N378 := Fr.app N375 (Fr.nil _)
        refine Go.castY (pc' := 159) C X378 (tw hw 9 rfl) e378 (Ins.self P371_2) at_156 rfl ?_
        intro T379 X379 e379
        refine Go.iload (pc' := 161) C X379 at_159 rfl rfl ?_
        refine Go.iload (pc' := 163) C X379 at_161 rfl rfl ?_
        refine Go.iload (pc' := 165) C X379 at_163 rfl rfl ?_
        refine Go.iload (pc' := 167) C X379 at_165 rfl rfl ?_
        refine Go.iload (pc' := 169) C X379 at_167 rfl rfl ?_
        refine Go.iconst (z := (1 : Int32)) (pc' := 170) C X379 at_169 rfl rfl ?_
        refine Go.iadd (pc' := 171) C X379 at_170 rfl ?_
        rw [show ((1 : Int32) + (1 : Int32)) = (2 : Int32) from by decide]
        refine Go.iload (pc' := 173) C X379 at_171 rfl rfl ?_
        refine Go.callS (y := mN33) (pc' := 176) C X379 (tw hw 5 rfl) (tw hw 6 rfl) (by decide) (rm_st24 l Z a0 hw x0 x1 x2 x3 cP T371.heap O376 SC hP hx0 hx1 hx2 hx3) (tw hw 7 rfl) (tw hw 3 rfl) e379 (argsL := [(.int x0), (.int x1), (.int x2), (.int x3), (.int (2 : Int32)), (.int (4 : Int32))]) (rest := [(.ref r_371)]) (W := 1) rfl rfl pd_27 rfl (Nat.le_of_eq rfl) rfl (by decide) (by decide) (by decide) (by decide) at_173 rfl ?_
        intro T380 v380 L380 X380 q380
        obtain ⟨r_380, v_380, kv_380, rfl, N380q, K380, B380_0, B380_1, P380_0, P380_1, P380_2, P380_3⟩ := q380
        have N380 := Fr.app N378 N380q
        have Hr381 := CHr.trans Hr373 (CHr.keep K380 all0 Hr373.1)
        have n_r_380 : Z.heap.size ≤ r_380 := Nat.le_trans O376.1 B380_0
        have z_r_380 : h0.size ≤ r_380 := Nat.le_trans (Nat.le_trans (Nat.le_trans (Nat.le_refl _) K328.1) K371.1) B380_0
        have s_r_380 : Safe Z consts_1 s.vm T380.heap r_380 := Safe.keep K380 all0 Hr373.1 (Safe.new B380_0)
        have n_v_380 : Z.heap.size ≤ v_380 := Nat.le_trans O376.1 B380_1
        have z_v_380 : h0.size ≤ v_380 := Nat.le_trans (Nat.le_trans (Nat.le_trans (Nat.le_refl _) K328.1) K371.1) B380_1
        have s_v_380 : Safe Z consts_1 s.vm T380.heap v_380 := Safe.keep K380 all0 Hr373.1 (Safe.new B380_1)
        have c383 : Exa Z T380.heap r_371 "java/lang/String" := (Exa.keep P371_2 K380)
        have c384 : Fld Z T380.heap r_371 "java/lang/String" "value" "[B" (.ref u_371) := (Fld.keep P371_3 K380 nin0)
        have c385 : Fld Z T380.heap r_371 "java/lang/String" "coder" "B" (.int (0 : Int32)) := (Fld.keep P371_4 K380 nin0)
        have c386 : AL Z T380.heap u_371 ku_371 .byte (by8 [x2, x3]) := (AL.keep P371_5 K380 nin0)
        have ne387 : r_371 ≠ r_380 := Nat.ne_of_lt (Nat.lt_of_lt_of_le P371_2.lt (Nat.le_trans (Nat.le_refl _) B380_0))
        have O388 : Ext Z.heap T380.heap := (Ext.keep O376 K380 all0)
        refine Go.callV (y := mN6) (z := mN6) (a := r_371) (pc' := 179) C X380 (tw hw 137 rfl) (tw hw 138 rfl) (notFace_at C.2.1 (tw hw 140 rfl)) (tw hw 140 rfl) (tw hw 139 rfl) c383 (by decide) (rm_eqS l Z a0 hw r_371 r_380 u_371 v_380 ku_371 kv_380 ([x2, x3]) ([x2, x3]) cP T380.heap O388 SC c383 c384 c385 c386 P380_0 P380_1 P380_2 P380_3 ne387 hP (show (2 : Nat) < 2 ^ 31 from by decide) (show (2 : Nat) < 2 ^ 31 from by decide)) (tw hw 141 rfl) (tw hw 11 rfl) rfl (argsL := [(.ref r_380)]) (rest := []) (W := 0) rfl rfl pd_30 rfl (Nat.le_of_eq rfl) rfl (by decide) (by decide) (by decide) (by decide) at_176 rfl ?_
        intro T382 v382 L382 X382 q382
        obtain ⟨rfl, rfl, e382⟩ := q382
        have N382 := Fr.app N380 (Fr.nil _)
        have K389 : Keep h0 T380.heap [] := ((((Keep.refl h0 []).trans K328 all0).trans K371 all0).trans K380 all0)
        have Si390 : Sin s s T380.heap := Sin.mono Si0 (Nat.le_trans (Nat.le_trans (Nat.le_trans (Nat.le_refl _) K328.1) K371.1) K380.1)
        exact Go.retNH C X382 (by rw [e382]; exact Si390) (EWc hw) (by rw [e382]; exact Hr381) rfl at_179 (by simp) (by rw [e382]; exact ⟨(by rw [if_pos rfl]; rfl), N382, K389⟩) (by decide) (by decide)
      · refine Go.aload (pc' := 117) C X330 at_115 rfl rfl rfl ?_
        have O392 : Ext Z.heap T328.heap := (Ext.keep O0 K328 all0)
        refine Go.callS (y := mN30) (pc' := 120) C X330 (tw hw 30 rfl) (tw hw 31 rfl) (by decide) (rm_sc40 l Z a0 hw r_328 v_328 kv_328 x0 x1 x2 x3 cP fm T328.heap O392 P328_0 P328_1 P328_2 P328_3 SC SF hx0 hx1 hx2 hx3 qe0 qe1 qe2 qe3 hP hfm) (tw hw 33 rfl) (tw hw 32 rfl) e330 (argsL := [(.ref r_328)]) (rest := []) (W := 0) rfl rfl pd_28 rfl (Nat.le_of_eq rfl) rfl (by decide) (by decide) (by decide) (by decide) at_117 rfl ?_
        intro T391 v391 L391 X391 q391
        obtain ⟨o_391, r_391, u_391, ku_391, rfl, N391q, K391, B391_0, B391_1, B391_2, P391_0, P391_1, P391_2, P391_3, P391_4, P391_5⟩ := q391
        have N391 := Fr.app N330 N391q
        have Hr393 := CHr.trans Hr329 (CHr.keep K391 all0 Hr329.1)
        have n_o_391 : Z.heap.size ≤ o_391 := Nat.le_trans O392.1 B391_0
        have z_o_391 : h0.size ≤ o_391 := Nat.le_trans (Nat.le_trans (Nat.le_refl _) K328.1) B391_0
        have s_o_391 : Safe Z consts_1 s.vm T391.heap o_391 := Safe.keep K391 all0 Hr329.1 (Safe.new B391_0)
        have n_r_391 : Z.heap.size ≤ r_391 := Nat.le_trans O392.1 B391_1
        have z_r_391 : h0.size ≤ r_391 := Nat.le_trans (Nat.le_trans (Nat.le_refl _) K328.1) B391_1
        have s_r_391 : Safe Z consts_1 s.vm T391.heap r_391 := Safe.keep K391 all0 Hr329.1 (Safe.new B391_1)
        have n_u_391 : Z.heap.size ≤ u_391 := Nat.le_trans O392.1 B391_2
        have z_u_391 : h0.size ≤ u_391 := Nat.le_trans (Nat.le_trans (Nat.le_refl _) K328.1) B391_2
        have s_u_391 : Safe Z consts_1 s.vm T391.heap u_391 := Safe.keep K391 all0 Hr329.1 (Safe.new B391_2)
        refine Go.astore (Ls' := #[.val (.int p1), .val (.int p2), .val (.int p3), .val (.int p4), .val (.int p5), .val (.int (4 : Int32)), .val (.int x0), .val (.int x1), .val (.int x2), .val (.int x3), .val (.ref r_328), .val (.int (0 : Int32)), .val (.ref o_391)]) (pc' := 122) C X391 at_120 rfl rfl rfl ?_
        refine Go.iload (pc' := 124) C X391 at_122 rfl rfl ?_
        refine Go.ifYes (pc' := 141) C X391 at_124 ((if0 _ _).trans (flt (x := (0 : Int32)) (y := (0 : Int32)) (by decide)).2.1) (by decide) (by decide) ?_
        refine Go.aload (pc' := 143) C X391 at_141 rfl rfl rfl ?_
        have O396 : Ext Z.heap T391.heap := (Ext.keep O392 K391 all0)
        refine Go.callV (y := mN27) (z := mN27) (a := o_391) (pc' := 146) C X391 (tw hw 76 rfl) (tw hw 77 rfl) (notFace_at C.2.1 (tw hw 79 rfl)) (tw hw 79 rfl) (tw hw 78 rfl) P391_0 (by decide) (rm_op1 l Z a0 hw o_391 r_391 T391.heap O396 P391_1) (tw hw 80 rfl) (tw hw 73 rfl) rfl (argsL := []) (rest := []) (W := 0) rfl rfl pd_13 rfl (Nat.le_of_eq rfl) rfl (by decide) (by decide) (by decide) (by decide) at_143 rfl ?_
        intro T395 v395 L395 X395 q395
        obtain ⟨rfl, rfl, e395⟩ := q395
        have N395 := Fr.app N391 (Fr.nil _)
        refine Go.ifYes (pc' := 151) C X395 at_146 ((if0 _ _).trans (feq (x := (1 : Int32)) (y := (0 : Int32)) (by decide)).2) (by decide) (by decide) ?_
        refine Go.aload (pc' := 153) C X395 at_151 rfl rfl rfl ?_
        refine Go.callV (y := mN26) (z := mN26) (a := o_391) (pc' := 156) C X395 (tw hw 132 rfl) (tw hw 133 rfl) (notFace_at C.2.1 (tw hw 135 rfl)) (tw hw 135 rfl) (tw hw 134 rfl) P391_0 (by decide) (rm_oge l Z a0 hw o_391 r_391 T391.heap O396 P391_1) (tw hw 136 rfl) (tw hw 73 rfl) e395 (argsL := []) (rest := []) (W := 0) rfl rfl pd_29 rfl (Nat.le_of_eq rfl) rfl (by decide) (by decide) (by decide) (by decide) at_153 rfl ?_
        intro T398 v398 L398 X398 q398
        obtain ⟨rfl, rfl, e398⟩ := q398
        have N398 := Fr.app N395 (Fr.nil _)
        refine Go.castY (pc' := 159) C X398 (tw hw 9 rfl) e398 (Ins.self P391_2) at_156 rfl ?_
        intro T399 X399 e399
        refine Go.iload (pc' := 161) C X399 at_159 rfl rfl ?_
        refine Go.iload (pc' := 163) C X399 at_161 rfl rfl ?_
        refine Go.iload (pc' := 165) C X399 at_163 rfl rfl ?_
        refine Go.iload (pc' := 167) C X399 at_165 rfl rfl ?_
        refine Go.iload (pc' := 169) C X399 at_167 rfl rfl ?_
        refine Go.iconst (z := (1 : Int32)) (pc' := 170) C X399 at_169 rfl rfl ?_
        refine Go.iadd (pc' := 171) C X399 at_170 rfl ?_
        rw [show ((0 : Int32) + (1 : Int32)) = (1 : Int32) from by decide]
        refine Go.iload (pc' := 173) C X399 at_171 rfl rfl ?_
        refine Go.callS (y := mN33) (pc' := 176) C X399 (tw hw 5 rfl) (tw hw 6 rfl) (by decide) (rm_st14 l Z a0 hw x0 x1 x2 x3 cP T391.heap O396 SC hP hx0 hx1 hx2 hx3) (tw hw 7 rfl) (tw hw 3 rfl) e399 (argsL := [(.int x0), (.int x1), (.int x2), (.int x3), (.int (1 : Int32)), (.int (4 : Int32))]) (rest := [(.ref r_391)]) (W := 1) rfl rfl pd_27 rfl (Nat.le_of_eq rfl) rfl (by decide) (by decide) (by decide) (by decide) at_173 rfl ?_
        intro T400 v400 L400 X400 q400
        obtain ⟨r_400, v_400, kv_400, rfl, N400q, K400, B400_0, B400_1, P400_0, P400_1, P400_2, P400_3⟩ := q400
        have N400 := Fr.app N398 N400q
        have Hr401 := CHr.trans Hr393 (CHr.keep K400 all0 Hr393.1)
        have n_r_400 : Z.heap.size ≤ r_400 := Nat.le_trans O396.1 B400_0
        have z_r_400 : h0.size ≤ r_400 := Nat.le_trans (Nat.le_trans (Nat.le_trans (Nat.le_refl _) K328.1) K391.1) B400_0
        have s_r_400 : Safe Z consts_1 s.vm T400.heap r_400 := Safe.keep K400 all0 Hr393.1 (Safe.new B400_0)
        have n_v_400 : Z.heap.size ≤ v_400 := Nat.le_trans O396.1 B400_1
        have z_v_400 : h0.size ≤ v_400 := Nat.le_trans (Nat.le_trans (Nat.le_trans (Nat.le_refl _) K328.1) K391.1) B400_1
        have s_v_400 : Safe Z consts_1 s.vm T400.heap v_400 := Safe.keep K400 all0 Hr393.1 (Safe.new B400_1)
        have c403 : Exa Z T400.heap r_391 "java/lang/String" := (Exa.keep P391_2 K400)
        have c404 : Fld Z T400.heap r_391 "java/lang/String" "value" "[B" (.ref u_391) := (Fld.keep P391_3 K400 nin0)
        have c405 : Fld Z T400.heap r_391 "java/lang/String" "coder" "B" (.int (0 : Int32)) := (Fld.keep P391_4 K400 nin0)
        have c406 : AL Z T400.heap u_391 ku_391 .byte (by8 [x1, x2, x3]) := (AL.keep P391_5 K400 nin0)
        have ne407 : r_391 ≠ r_400 := Nat.ne_of_lt (Nat.lt_of_lt_of_le P391_2.lt (Nat.le_trans (Nat.le_refl _) B400_0))
        have O408 : Ext Z.heap T400.heap := (Ext.keep O396 K400 all0)
        refine Go.callV (y := mN6) (z := mN6) (a := r_391) (pc' := 179) C X400 (tw hw 137 rfl) (tw hw 138 rfl) (notFace_at C.2.1 (tw hw 140 rfl)) (tw hw 140 rfl) (tw hw 139 rfl) c403 (by decide) (rm_eqS l Z a0 hw r_391 r_400 u_391 v_400 ku_391 kv_400 ([x1, x2, x3]) ([x1, x2, x3]) cP T400.heap O408 SC c403 c404 c405 c406 P400_0 P400_1 P400_2 P400_3 ne407 hP (show (3 : Nat) < 2 ^ 31 from by decide) (show (3 : Nat) < 2 ^ 31 from by decide)) (tw hw 141 rfl) (tw hw 11 rfl) rfl (argsL := [(.ref r_400)]) (rest := []) (W := 0) rfl rfl pd_30 rfl (Nat.le_of_eq rfl) rfl (by decide) (by decide) (by decide) (by decide) at_176 rfl ?_
        intro T402 v402 L402 X402 q402
        obtain ⟨rfl, rfl, e402⟩ := q402
        have N402 := Fr.app N400 (Fr.nil _)
        have K409 : Keep h0 T400.heap [] := ((((Keep.refl h0 []).trans K328 all0).trans K391 all0).trans K400 all0)
        have Si410 : Sin s s T400.heap := Sin.mono Si0 (Nat.le_trans (Nat.le_trans (Nat.le_trans (Nat.le_refl _) K328.1) K391.1) K400.1)
        exact Go.retNH C X402 (by rw [e402]; exact Si410) (EWc hw) (by rw [e402]; exact Hr401) rfl at_179 (by simp) (by rw [e402]; exact ⟨(by rw [if_pos rfl]; rfl), N402, K409⟩) (by decide) (by decide)
      · refine Go.aload (pc' := 117) C X330 at_115 rfl rfl rfl ?_
        have O412 : Ext Z.heap T328.heap := (Ext.keep O0 K328 all0)
        refine Go.callS (y := mN30) (pc' := 120) C X330 (tw hw 30 rfl) (tw hw 31 rfl) (by decide) (rm_sc4m l Z a0 hw r_328 v_328 kv_328 x0 x1 x2 x3 cP em T328.heap O412 P328_0 P328_1 P328_2 P328_3 SC SE hx0 hx1 hx2 hx3 qe0 qe1 qe2 qe3 hP) (tw hw 33 rfl) (tw hw 32 rfl) e330 (argsL := [(.ref r_328)]) (rest := []) (W := 0) rfl rfl pd_28 rfl (Nat.le_of_eq rfl) rfl (by decide) (by decide) (by decide) (by decide) at_117 rfl ?_
        intro T411 v411 L411 X411 q411
        obtain ⟨rfl, rfl, e411⟩ := q411
        have N411 := Fr.app N330 (Fr.nil _)
        refine Go.astore (Ls' := #[.val (.int p1), .val (.int p2), .val (.int p3), .val (.int p4), .val (.int p5), .val (.int (4 : Int32)), .val (.int x0), .val (.int x1), .val (.int x2), .val (.int x3), .val (.ref r_328), .val (.int (-1 : Int32)), .val (.ref em)]) (pc' := 122) C X411 at_120 rfl rfl rfl ?_
        refine Go.iload (pc' := 124) C X411 at_122 rfl rfl ?_
        refine Go.ifNo (pc' := 127) C X411 at_124 ((if0 _ _).trans (tlt (x := (-1 : Int32)) (y := (0 : Int32)) (by decide)).2.1) rfl ?_
        refine Go.aload (pc' := 129) C X411 at_127 rfl rfl rfl ?_
        refine Go.callV (y := mN27) (z := mN27) (a := em) (pc' := 132) C X411 (tw hw 76 rfl) (tw hw 77 rfl) (notFace_at C.2.1 (tw hw 79 rfl)) (tw hw 79 rfl) (tw hw 78 rfl) (Exa.ext O412 Ee) (by decide) (rm_op0 l Z a0 hw em T328.heap O412 Fe) (tw hw 80 rfl) (tw hw 73 rfl) e411 (argsL := []) (rest := []) (W := 0) rfl rfl pd_13 rfl (Nat.le_of_eq rfl) rfl (by decide) (by decide) (by decide) (by decide) at_129 rfl ?_
        intro T414 v414 L414 X414 q414
        obtain ⟨rfl, rfl, e414⟩ := q414
        have N414 := Fr.app N411 (Fr.nil _)
        refine Go.ifNo (pc' := 135) C X414 at_132 ((if0 _ _).trans (teq (x := (0 : Int32)) (y := (0 : Int32)) (by decide)).2) rfl ?_
        refine Go.iconst (z := (1 : Int32)) (pc' := 136) C X414 at_135 rfl rfl ?_
        refine Go.goto (pc' := 140) C X414 at_136 (by decide) (by decide) ?_
        have K416 : Keep h0 T328.heap [] := ((Keep.refl h0 []).trans K328 all0)
        have Si417 : Sin s s T328.heap := Sin.mono Si0 (Nat.le_trans (Nat.le_refl _) K328.1)
        exact Go.retNH C X414 (by rw [e414]; exact Si417) (EWc hw) (by rw [e414]; exact Hr329) rfl at_140 (by simp) (by rw [e414]; exact ⟨rfl, N414, K416⟩) (by decide) (by decide)
    refine Go.iconst (z := (-1 : Int32)) (pc' := 50) C X328 at_49 rfl rfl ?_
    refine Go.istore (Ls' := #[.val (.int p1), .val (.int p2), .val (.int p3), .val (.int p4), .val (.int p5), .val (.int (4 : Int32)), .val (.int x0), .val (.int x1), .val (.int x2), .val (.int x3), .val (.ref r_328), .val (.int (-1 : Int32)), .unset]) (pc' := 52) C X328 at_50 rfl rfl ?_
    refine Go.iload (pc' := 54) C X328 at_52 rfl rfl ?_
    refine Go.ifNo (pc' := 57) C X328 at_54 ((if0 _ _).trans (tlt (x := (0 : Int32)) (y := (4 : Int32)) (by decide)).2.2.2) rfl ?_
    refine Go.iload (pc' := 59) C X328 at_57 rfl rfl ?_
    refine Go.bipush (z := (64 : Int32)) (pc' := 61) C X328 at_59 rfl rfl ?_
    by_cases hc61_419 : x0 = (64 : Int32)
    · refine Go.icmpNo (pc' := 64) C X328 at_61 (teq (x := x0) (y := (64 : Int32)) hc61_419).2 rfl ?_
      refine Go.iconst (z := (0 : Int32)) (pc' := 65) C X328 at_64 rfl rfl ?_
      refine Go.istore (Ls' := #[.val (.int p1), .val (.int p2), .val (.int p3), .val (.int p4), .val (.int p5), .val (.int (4 : Int32)), .val (.int x0), .val (.int x1), .val (.int x2), .val (.int x3), .val (.ref r_328), .val (.int (0 : Int32)), .unset]) (pc' := 67) C X328 at_65 rfl rfl ?_
      refine Go.iload (pc' := 69) C X328 at_67 rfl rfl ?_
      refine Go.iconst (z := (1 : Int32)) (pc' := 70) C X328 at_69 rfl rfl ?_
      refine Go.icmpNo (pc' := 73) C X328 at_70 (tlt (x := (1 : Int32)) (y := (4 : Int32)) (by decide)).2.2.2 rfl ?_
      refine Go.iload (pc' := 75) C X328 at_73 rfl rfl ?_
      refine Go.bipush (z := (64 : Int32)) (pc' := 77) C X328 at_75 rfl rfl ?_
      by_cases hc77_421 : x1 = (64 : Int32)
      · refine Go.icmpNo (pc' := 80) C X328 at_77 (teq (x := x1) (y := (64 : Int32)) hc77_421).2 rfl ?_
        refine Go.iconst (z := (1 : Int32)) (pc' := 81) C X328 at_80 rfl rfl ?_
        refine Go.istore (Ls' := #[.val (.int p1), .val (.int p2), .val (.int p3), .val (.int p4), .val (.int p5), .val (.int (4 : Int32)), .val (.int x0), .val (.int x1), .val (.int x2), .val (.int x3), .val (.ref r_328), .val (.int (1 : Int32)), .unset]) (pc' := 83) C X328 at_81 rfl rfl ?_
        refine Go.iload (pc' := 85) C X328 at_83 rfl rfl ?_
        refine Go.iconst (z := (2 : Int32)) (pc' := 86) C X328 at_85 rfl rfl ?_
        refine Go.icmpNo (pc' := 89) C X328 at_86 (tlt (x := (2 : Int32)) (y := (4 : Int32)) (by decide)).2.2.2 rfl ?_
        refine Go.iload (pc' := 91) C X328 at_89 rfl rfl ?_
        refine Go.bipush (z := (64 : Int32)) (pc' := 93) C X328 at_91 rfl rfl ?_
        by_cases hc93_423 : x2 = (64 : Int32)
        · refine Go.icmpNo (pc' := 96) C X328 at_93 (teq (x := x2) (y := (64 : Int32)) hc93_423).2 rfl ?_
          refine Go.iconst (z := (2 : Int32)) (pc' := 97) C X328 at_96 rfl rfl ?_
          refine Go.istore (Ls' := #[.val (.int p1), .val (.int p2), .val (.int p3), .val (.int p4), .val (.int p5), .val (.int (4 : Int32)), .val (.int x0), .val (.int x1), .val (.int x2), .val (.int x3), .val (.ref r_328), .val (.int (2 : Int32)), .unset]) (pc' := 99) C X328 at_97 rfl rfl ?_
          refine Go.iload (pc' := 101) C X328 at_99 rfl rfl ?_
          refine Go.iconst (z := (3 : Int32)) (pc' := 102) C X328 at_101 rfl rfl ?_
          refine Go.icmpNo (pc' := 105) C X328 at_102 (tlt (x := (3 : Int32)) (y := (4 : Int32)) (by decide)).2.2.2 rfl ?_
          refine Go.iload (pc' := 107) C X328 at_105 rfl rfl ?_
          refine Go.bipush (z := (64 : Int32)) (pc' := 109) C X328 at_107 rfl rfl ?_
          by_cases hc109_425 : x3 = (64 : Int32)
          · refine Go.icmpNo (pc' := 112) C X328 at_109 (teq (x := x3) (y := (64 : Int32)) hc109_425).2 rfl ?_
            refine Go.iconst (z := (3 : Int32)) (pc' := 113) C X328 at_112 rfl rfl ?_
            refine Go.istore (Ls' := #[.val (.int p1), .val (.int p2), .val (.int p3), .val (.int p4), .val (.int p5), .val (.int (4 : Int32)), .val (.int x0), .val (.int x1), .val (.int x2), .val (.int x3), .val (.ref r_328), .val (.int (3 : Int32)), .unset]) (pc' := 115) C X328 at_113 rfl rfl ?_
            exact K115 _ _ X328 rfl N328 (3 : Int32) (Or.inl ⟨rfl, hc109_425⟩)
          · refine Go.icmpYes (pc' := 115) C X328 at_109 (feq (x := x3) (y := (64 : Int32)) hc109_425).2 (by decide) (by decide) ?_
            exact K115 _ _ X328 rfl N328 (2 : Int32) (Or.inr (Or.inl ⟨rfl, hc93_423, hc109_425⟩))
        · refine Go.icmpYes (pc' := 99) C X328 at_93 (feq (x := x2) (y := (64 : Int32)) hc93_423).2 (by decide) (by decide) ?_
          refine Go.iload (pc' := 101) C X328 at_99 rfl rfl ?_
          refine Go.iconst (z := (3 : Int32)) (pc' := 102) C X328 at_101 rfl rfl ?_
          refine Go.icmpNo (pc' := 105) C X328 at_102 (tlt (x := (3 : Int32)) (y := (4 : Int32)) (by decide)).2.2.2 rfl ?_
          refine Go.iload (pc' := 107) C X328 at_105 rfl rfl ?_
          refine Go.bipush (z := (64 : Int32)) (pc' := 109) C X328 at_107 rfl rfl ?_
          by_cases hc109_427 : x3 = (64 : Int32)
          · refine Go.icmpNo (pc' := 112) C X328 at_109 (teq (x := x3) (y := (64 : Int32)) hc109_427).2 rfl ?_
            refine Go.iconst (z := (3 : Int32)) (pc' := 113) C X328 at_112 rfl rfl ?_
            refine Go.istore (Ls' := #[.val (.int p1), .val (.int p2), .val (.int p3), .val (.int p4), .val (.int p5), .val (.int (4 : Int32)), .val (.int x0), .val (.int x1), .val (.int x2), .val (.int x3), .val (.ref r_328), .val (.int (3 : Int32)), .unset]) (pc' := 115) C X328 at_113 rfl rfl ?_
            exact K115 _ _ X328 rfl N328 (3 : Int32) (Or.inl ⟨rfl, hc109_427⟩)
          · refine Go.icmpYes (pc' := 115) C X328 at_109 (feq (x := x3) (y := (64 : Int32)) hc109_427).2 (by decide) (by decide) ?_
            exact K115 _ _ X328 rfl N328 (1 : Int32) (Or.inr (Or.inr (Or.inl ⟨rfl, hc77_421, hc93_423, hc109_427⟩)))
      · refine Go.icmpYes (pc' := 83) C X328 at_77 (feq (x := x1) (y := (64 : Int32)) hc77_421).2 (by decide) (by decide) ?_
        refine Go.iload (pc' := 85) C X328 at_83 rfl rfl ?_
        refine Go.iconst (z := (2 : Int32)) (pc' := 86) C X328 at_85 rfl rfl ?_
        refine Go.icmpNo (pc' := 89) C X328 at_86 (tlt (x := (2 : Int32)) (y := (4 : Int32)) (by decide)).2.2.2 rfl ?_
        refine Go.iload (pc' := 91) C X328 at_89 rfl rfl ?_
        refine Go.bipush (z := (64 : Int32)) (pc' := 93) C X328 at_91 rfl rfl ?_
        by_cases hc93_429 : x2 = (64 : Int32)
        · refine Go.icmpNo (pc' := 96) C X328 at_93 (teq (x := x2) (y := (64 : Int32)) hc93_429).2 rfl ?_
          refine Go.iconst (z := (2 : Int32)) (pc' := 97) C X328 at_96 rfl rfl ?_
          refine Go.istore (Ls' := #[.val (.int p1), .val (.int p2), .val (.int p3), .val (.int p4), .val (.int p5), .val (.int (4 : Int32)), .val (.int x0), .val (.int x1), .val (.int x2), .val (.int x3), .val (.ref r_328), .val (.int (2 : Int32)), .unset]) (pc' := 99) C X328 at_97 rfl rfl ?_
          refine Go.iload (pc' := 101) C X328 at_99 rfl rfl ?_
          refine Go.iconst (z := (3 : Int32)) (pc' := 102) C X328 at_101 rfl rfl ?_
          refine Go.icmpNo (pc' := 105) C X328 at_102 (tlt (x := (3 : Int32)) (y := (4 : Int32)) (by decide)).2.2.2 rfl ?_
          refine Go.iload (pc' := 107) C X328 at_105 rfl rfl ?_
          refine Go.bipush (z := (64 : Int32)) (pc' := 109) C X328 at_107 rfl rfl ?_
          by_cases hc109_431 : x3 = (64 : Int32)
          · refine Go.icmpNo (pc' := 112) C X328 at_109 (teq (x := x3) (y := (64 : Int32)) hc109_431).2 rfl ?_
            refine Go.iconst (z := (3 : Int32)) (pc' := 113) C X328 at_112 rfl rfl ?_
            refine Go.istore (Ls' := #[.val (.int p1), .val (.int p2), .val (.int p3), .val (.int p4), .val (.int p5), .val (.int (4 : Int32)), .val (.int x0), .val (.int x1), .val (.int x2), .val (.int x3), .val (.ref r_328), .val (.int (3 : Int32)), .unset]) (pc' := 115) C X328 at_113 rfl rfl ?_
            exact K115 _ _ X328 rfl N328 (3 : Int32) (Or.inl ⟨rfl, hc109_431⟩)
          · refine Go.icmpYes (pc' := 115) C X328 at_109 (feq (x := x3) (y := (64 : Int32)) hc109_431).2 (by decide) (by decide) ?_
            exact K115 _ _ X328 rfl N328 (2 : Int32) (Or.inr (Or.inl ⟨rfl, hc93_429, hc109_431⟩))
        · refine Go.icmpYes (pc' := 99) C X328 at_93 (feq (x := x2) (y := (64 : Int32)) hc93_429).2 (by decide) (by decide) ?_
          refine Go.iload (pc' := 101) C X328 at_99 rfl rfl ?_
          refine Go.iconst (z := (3 : Int32)) (pc' := 102) C X328 at_101 rfl rfl ?_
          refine Go.icmpNo (pc' := 105) C X328 at_102 (tlt (x := (3 : Int32)) (y := (4 : Int32)) (by decide)).2.2.2 rfl ?_
          refine Go.iload (pc' := 107) C X328 at_105 rfl rfl ?_
          refine Go.bipush (z := (64 : Int32)) (pc' := 109) C X328 at_107 rfl rfl ?_
          by_cases hc109_433 : x3 = (64 : Int32)
          · refine Go.icmpNo (pc' := 112) C X328 at_109 (teq (x := x3) (y := (64 : Int32)) hc109_433).2 rfl ?_
            refine Go.iconst (z := (3 : Int32)) (pc' := 113) C X328 at_112 rfl rfl ?_
            refine Go.istore (Ls' := #[.val (.int p1), .val (.int p2), .val (.int p3), .val (.int p4), .val (.int p5), .val (.int (4 : Int32)), .val (.int x0), .val (.int x1), .val (.int x2), .val (.int x3), .val (.ref r_328), .val (.int (3 : Int32)), .unset]) (pc' := 115) C X328 at_113 rfl rfl ?_
            exact K115 _ _ X328 rfl N328 (3 : Int32) (Or.inl ⟨rfl, hc109_433⟩)
          · refine Go.icmpYes (pc' := 115) C X328 at_109 (feq (x := x3) (y := (64 : Int32)) hc109_433).2 (by decide) (by decide) ?_
            exact K115 _ _ X328 rfl N328 (0 : Int32) (Or.inr (Or.inr (Or.inr (Or.inl ⟨rfl, hc61_419, hc77_421, hc93_429, hc109_433⟩))))
    · refine Go.icmpYes (pc' := 67) C X328 at_61 (feq (x := x0) (y := (64 : Int32)) hc61_419).2 (by decide) (by decide) ?_
      refine Go.iload (pc' := 69) C X328 at_67 rfl rfl ?_
      refine Go.iconst (z := (1 : Int32)) (pc' := 70) C X328 at_69 rfl rfl ?_
      refine Go.icmpNo (pc' := 73) C X328 at_70 (tlt (x := (1 : Int32)) (y := (4 : Int32)) (by decide)).2.2.2 rfl ?_
      refine Go.iload (pc' := 75) C X328 at_73 rfl rfl ?_
      refine Go.bipush (z := (64 : Int32)) (pc' := 77) C X328 at_75 rfl rfl ?_
      by_cases hc77_435 : x1 = (64 : Int32)
      · refine Go.icmpNo (pc' := 80) C X328 at_77 (teq (x := x1) (y := (64 : Int32)) hc77_435).2 rfl ?_
        refine Go.iconst (z := (1 : Int32)) (pc' := 81) C X328 at_80 rfl rfl ?_
        refine Go.istore (Ls' := #[.val (.int p1), .val (.int p2), .val (.int p3), .val (.int p4), .val (.int p5), .val (.int (4 : Int32)), .val (.int x0), .val (.int x1), .val (.int x2), .val (.int x3), .val (.ref r_328), .val (.int (1 : Int32)), .unset]) (pc' := 83) C X328 at_81 rfl rfl ?_
        refine Go.iload (pc' := 85) C X328 at_83 rfl rfl ?_
        refine Go.iconst (z := (2 : Int32)) (pc' := 86) C X328 at_85 rfl rfl ?_
        refine Go.icmpNo (pc' := 89) C X328 at_86 (tlt (x := (2 : Int32)) (y := (4 : Int32)) (by decide)).2.2.2 rfl ?_
        refine Go.iload (pc' := 91) C X328 at_89 rfl rfl ?_
        refine Go.bipush (z := (64 : Int32)) (pc' := 93) C X328 at_91 rfl rfl ?_
        by_cases hc93_437 : x2 = (64 : Int32)
        · refine Go.icmpNo (pc' := 96) C X328 at_93 (teq (x := x2) (y := (64 : Int32)) hc93_437).2 rfl ?_
          refine Go.iconst (z := (2 : Int32)) (pc' := 97) C X328 at_96 rfl rfl ?_
          refine Go.istore (Ls' := #[.val (.int p1), .val (.int p2), .val (.int p3), .val (.int p4), .val (.int p5), .val (.int (4 : Int32)), .val (.int x0), .val (.int x1), .val (.int x2), .val (.int x3), .val (.ref r_328), .val (.int (2 : Int32)), .unset]) (pc' := 99) C X328 at_97 rfl rfl ?_
          refine Go.iload (pc' := 101) C X328 at_99 rfl rfl ?_
          refine Go.iconst (z := (3 : Int32)) (pc' := 102) C X328 at_101 rfl rfl ?_
          refine Go.icmpNo (pc' := 105) C X328 at_102 (tlt (x := (3 : Int32)) (y := (4 : Int32)) (by decide)).2.2.2 rfl ?_
          refine Go.iload (pc' := 107) C X328 at_105 rfl rfl ?_
          refine Go.bipush (z := (64 : Int32)) (pc' := 109) C X328 at_107 rfl rfl ?_
          by_cases hc109_439 : x3 = (64 : Int32)
          · refine Go.icmpNo (pc' := 112) C X328 at_109 (teq (x := x3) (y := (64 : Int32)) hc109_439).2 rfl ?_
            refine Go.iconst (z := (3 : Int32)) (pc' := 113) C X328 at_112 rfl rfl ?_
            refine Go.istore (Ls' := #[.val (.int p1), .val (.int p2), .val (.int p3), .val (.int p4), .val (.int p5), .val (.int (4 : Int32)), .val (.int x0), .val (.int x1), .val (.int x2), .val (.int x3), .val (.ref r_328), .val (.int (3 : Int32)), .unset]) (pc' := 115) C X328 at_113 rfl rfl ?_
            exact K115 _ _ X328 rfl N328 (3 : Int32) (Or.inl ⟨rfl, hc109_439⟩)
          · refine Go.icmpYes (pc' := 115) C X328 at_109 (feq (x := x3) (y := (64 : Int32)) hc109_439).2 (by decide) (by decide) ?_
            exact K115 _ _ X328 rfl N328 (2 : Int32) (Or.inr (Or.inl ⟨rfl, hc93_437, hc109_439⟩))
        · refine Go.icmpYes (pc' := 99) C X328 at_93 (feq (x := x2) (y := (64 : Int32)) hc93_437).2 (by decide) (by decide) ?_
          refine Go.iload (pc' := 101) C X328 at_99 rfl rfl ?_
          refine Go.iconst (z := (3 : Int32)) (pc' := 102) C X328 at_101 rfl rfl ?_
          refine Go.icmpNo (pc' := 105) C X328 at_102 (tlt (x := (3 : Int32)) (y := (4 : Int32)) (by decide)).2.2.2 rfl ?_
          refine Go.iload (pc' := 107) C X328 at_105 rfl rfl ?_
          refine Go.bipush (z := (64 : Int32)) (pc' := 109) C X328 at_107 rfl rfl ?_
          by_cases hc109_441 : x3 = (64 : Int32)
          · refine Go.icmpNo (pc' := 112) C X328 at_109 (teq (x := x3) (y := (64 : Int32)) hc109_441).2 rfl ?_
            refine Go.iconst (z := (3 : Int32)) (pc' := 113) C X328 at_112 rfl rfl ?_
            refine Go.istore (Ls' := #[.val (.int p1), .val (.int p2), .val (.int p3), .val (.int p4), .val (.int p5), .val (.int (4 : Int32)), .val (.int x0), .val (.int x1), .val (.int x2), .val (.int x3), .val (.ref r_328), .val (.int (3 : Int32)), .unset]) (pc' := 115) C X328 at_113 rfl rfl ?_
            exact K115 _ _ X328 rfl N328 (3 : Int32) (Or.inl ⟨rfl, hc109_441⟩)
          · refine Go.icmpYes (pc' := 115) C X328 at_109 (feq (x := x3) (y := (64 : Int32)) hc109_441).2 (by decide) (by decide) ?_
            exact K115 _ _ X328 rfl N328 (1 : Int32) (Or.inr (Or.inr (Or.inl ⟨rfl, hc77_435, hc93_437, hc109_441⟩)))
      · refine Go.icmpYes (pc' := 83) C X328 at_77 (feq (x := x1) (y := (64 : Int32)) hc77_435).2 (by decide) (by decide) ?_
        refine Go.iload (pc' := 85) C X328 at_83 rfl rfl ?_
        refine Go.iconst (z := (2 : Int32)) (pc' := 86) C X328 at_85 rfl rfl ?_
        refine Go.icmpNo (pc' := 89) C X328 at_86 (tlt (x := (2 : Int32)) (y := (4 : Int32)) (by decide)).2.2.2 rfl ?_
        refine Go.iload (pc' := 91) C X328 at_89 rfl rfl ?_
        refine Go.bipush (z := (64 : Int32)) (pc' := 93) C X328 at_91 rfl rfl ?_
        by_cases hc93_443 : x2 = (64 : Int32)
        · refine Go.icmpNo (pc' := 96) C X328 at_93 (teq (x := x2) (y := (64 : Int32)) hc93_443).2 rfl ?_
          refine Go.iconst (z := (2 : Int32)) (pc' := 97) C X328 at_96 rfl rfl ?_
          refine Go.istore (Ls' := #[.val (.int p1), .val (.int p2), .val (.int p3), .val (.int p4), .val (.int p5), .val (.int (4 : Int32)), .val (.int x0), .val (.int x1), .val (.int x2), .val (.int x3), .val (.ref r_328), .val (.int (2 : Int32)), .unset]) (pc' := 99) C X328 at_97 rfl rfl ?_
          refine Go.iload (pc' := 101) C X328 at_99 rfl rfl ?_
          refine Go.iconst (z := (3 : Int32)) (pc' := 102) C X328 at_101 rfl rfl ?_
          refine Go.icmpNo (pc' := 105) C X328 at_102 (tlt (x := (3 : Int32)) (y := (4 : Int32)) (by decide)).2.2.2 rfl ?_
          refine Go.iload (pc' := 107) C X328 at_105 rfl rfl ?_
          refine Go.bipush (z := (64 : Int32)) (pc' := 109) C X328 at_107 rfl rfl ?_
          by_cases hc109_445 : x3 = (64 : Int32)
          · refine Go.icmpNo (pc' := 112) C X328 at_109 (teq (x := x3) (y := (64 : Int32)) hc109_445).2 rfl ?_
            refine Go.iconst (z := (3 : Int32)) (pc' := 113) C X328 at_112 rfl rfl ?_
            refine Go.istore (Ls' := #[.val (.int p1), .val (.int p2), .val (.int p3), .val (.int p4), .val (.int p5), .val (.int (4 : Int32)), .val (.int x0), .val (.int x1), .val (.int x2), .val (.int x3), .val (.ref r_328), .val (.int (3 : Int32)), .unset]) (pc' := 115) C X328 at_113 rfl rfl ?_
            exact K115 _ _ X328 rfl N328 (3 : Int32) (Or.inl ⟨rfl, hc109_445⟩)
          · refine Go.icmpYes (pc' := 115) C X328 at_109 (feq (x := x3) (y := (64 : Int32)) hc109_445).2 (by decide) (by decide) ?_
            exact K115 _ _ X328 rfl N328 (2 : Int32) (Or.inr (Or.inl ⟨rfl, hc93_443, hc109_445⟩))
        · refine Go.icmpYes (pc' := 99) C X328 at_93 (feq (x := x2) (y := (64 : Int32)) hc93_443).2 (by decide) (by decide) ?_
          refine Go.iload (pc' := 101) C X328 at_99 rfl rfl ?_
          refine Go.iconst (z := (3 : Int32)) (pc' := 102) C X328 at_101 rfl rfl ?_
          refine Go.icmpNo (pc' := 105) C X328 at_102 (tlt (x := (3 : Int32)) (y := (4 : Int32)) (by decide)).2.2.2 rfl ?_
          refine Go.iload (pc' := 107) C X328 at_105 rfl rfl ?_
          refine Go.bipush (z := (64 : Int32)) (pc' := 109) C X328 at_107 rfl rfl ?_
          by_cases hc109_447 : x3 = (64 : Int32)
          · refine Go.icmpNo (pc' := 112) C X328 at_109 (teq (x := x3) (y := (64 : Int32)) hc109_447).2 rfl ?_
            refine Go.iconst (z := (3 : Int32)) (pc' := 113) C X328 at_112 rfl rfl ?_
            refine Go.istore (Ls' := #[.val (.int p1), .val (.int p2), .val (.int p3), .val (.int p4), .val (.int p5), .val (.int (4 : Int32)), .val (.int x0), .val (.int x1), .val (.int x2), .val (.int x3), .val (.ref r_328), .val (.int (3 : Int32)), .unset]) (pc' := 115) C X328 at_113 rfl rfl ?_
            exact K115 _ _ X328 rfl N328 (3 : Int32) (Or.inl ⟨rfl, hc109_447⟩)
          · refine Go.icmpYes (pc' := 115) C X328 at_109 (feq (x := x3) (y := (64 : Int32)) hc109_447).2 (by decide) (by decide) ?_
            exact K115 _ _ X328 rfl N328 (-1 : Int32) (Or.inr (Or.inr (Or.inr (Or.inr ⟨rfl, hc61_419, hc77_435, hc93_443, hc109_447⟩))))
theorem eqI_v {args : Array Value} {Z : State} {t : Term} {x n : Int32} (h : t.eval args Z none [] Z = some (.int x)) : (Jvm.Cond.eq t (.int n)).value args Z none Z [] = some (decide (x = n)) := by simp [Cond.value, Term.eval, h]
theorem own_eqN {args : Array Value} {Z : State} {t : Term} (h : (Jvm.Cond.eq t .null).value args Z none Z [] = some true) : t.eval args Z none [] Z = some .null := by
  simp only [Cond.value, Term.eval] at h
  cases ht : t.eval args Z none [] Z with
  | none => simp [ht] at h
  | some x => cases x <;> simp [ht] at h ⊢
theorem own_cat {v : Value} (h : v.isRef = true) : v.category = 1 := by cases v <;> simp [Value.isRef, Value.category] at *
theorem comes_1 {Post : Tables → Env → Array Value → State → Outcome → State → Prop} (hpost : ∀ tb e args s v u, (limb_1_1.after args s (.returned v) u = true ∧ limb_1_2.after args s (.returned v) u = true ∧ True) → ReturnedEndW s (.returned v) u (Jvm.fieldLocs frame_1_writes args s ++ Jvm.arrayLocs frame_1_arrays args s ++ Jvm.staticLocs frame_1_statics s) 32 2240 → Post tb e args s (.returned v) u) :
    ArmFor flags0 classFile x code maxLocals ret World_1 tables_1 room_1 Calls_1 rest_1 Pre_1 Post := by
  intro l hfl _ _ p e ha hc hk s m args below hf hA hF happ hP
  obtain ⟨hcalls, hrest, hpre⟩ := hP
  obtain ⟨-, -, -, hnamed, -, -, -, hat⟩ := (Spec.applies_iff hf).mp happ
  obtain ⟨hg, hn⟩ := and_e (Cond.before_iff.mp (show (Jvm.Cond.and given_1 narrow_1).before args s = true from hpre))
  obtain ⟨g1, g2⟩ := and_e hg
  obtain ⟨g3, g4⟩ := and_e g2
  obtain ⟨g5, g6⟩ := and_e g4
  obtain ⟨g7, g8⟩ := and_e g6
  obtain ⟨g9, g10⟩ := and_e g8
  obtain ⟨w0, w1, w2, w3, w4, rfl⟩ : ∃ w0 w1 w2 w3 w4 : Value, args = #[w0, w1, w2, w3, w4] := by
    have hs : args.size = 5 := by simpa [Cond.value, given_1] using g1
    obtain ⟨L⟩ := args
    match L, hs with
    | [w0, w1, w2, w3, w4], _ => exact ⟨w0, w1, w2, w3, w4, rfl⟩
  have hw := fun d (hd : d ∈ tables_1) => atoms_spec (ws := Jvm.Cond.code x code maxLocals ret :: tables_1) hat d (List.mem_cons_of_mem _ hd)
  have hfit : Fit s := fun {y c} hc i hi => by
    obtain ⟨ha, rfl⟩ := Array.getElem?_eq_some_iff.mp hc
    have q := List.all_eq_true.mp ((Array.all_eq_true_iff_forall_mem.mp hF) _ (Array.getElem_mem ha)) i (List.mem_range.mpr hi)
    simpa [Array.getElem?_eq_getElem hi] using q
  obtain ⟨hsets, hown0⟩ := atoms_of _ (rest_1_c_eq ▸ (show rest_1_c.before _ s = true from hrest))
  obtain ⟨i0, ei0⟩ := is_v g3
  obtain rfl : w0 = (.int i0) := Option.some.inj ei0
  obtain ⟨i1, ei1⟩ := is_v g5
  obtain rfl : w1 = (.int i1) := Option.some.inj ei1
  obtain ⟨i2, ei2⟩ := is_v g7
  obtain rfl : w2 = (.int i2) := Option.some.inj ei2
  obtain ⟨i3, ei3⟩ := is_v g9
  obtain rfl : w3 = (.int i3) := Option.some.inj ei3
  obtain ⟨i4, ei4⟩ := is_v g10
  obtain rfl : w4 = (.int i4) := Option.some.inj ei4
  obtain ⟨cP, vP⟩ := is_v (Cond.before_iff.mp (hsets _ (List.mem_of_getElem? (i := 1) rfl)))
  have SP := Sta.start vP (Or.inl (hsets _ (List.mem_of_getElem? (i := 0) rfl)))
  have hP : ¬ cP = (0 : Int32) := gotF (eqI_v vP) (not_v (Cond.before_iff.mp (hsets _ (List.mem_of_getElem? (i := 2) rfl))))
  obtain ⟨fm, vfm, rfm⟩ := isR_v (Cond.before_iff.mp (hsets _ (List.mem_of_getElem? (i := 8) rfl)))
  have SFs := Sta.start vfm (Or.inl (hsets _ (List.mem_of_getElem? (i := 7) rfl)))
  obtain ⟨em, vem⟩ := exa_v (Cond.before_iff.mp (hsets _ (List.mem_of_getElem? (i := 11) rfl)))
  have SEs := Sta.start vem (Or.inl (hsets _ (List.mem_of_getElem? (i := 10) rfl)))
  have Ees := Exa.start vem (Cond.before_iff.mp (hsets _ (List.mem_of_getElem? (i := 11) rfl)))
  have vfe := own_eqN (Cond.before_iff.mp (hsets _ (List.mem_of_getElem? (i := 12) rfl)))
  rw [fld_at vem] at vfe
  have Fes := Fld.start vfe
  obtain ⟨n, o, h1, h2, h3, _, L, rfl, ⟨rfl, N, -⟩, -, hq⟩ := rm_law l s _ hw i0 i1 i2 i3 i4 cP fm em s.heap (Ext.refl _) SP SFs SEs Fes Ees hP (own_cat rfm) tables_1 p e ha hc hk s m _ below hf ((Spec.applies_iff_loose hf).mp happ).1 ⟨rfl, State.Warmed39.refl s, rfl, CHv.start (EWc hw) (fun p hp => hcalls.1 p hp) (hsets _ (List.mem_of_getElem? (i := 2) rfl)) (tw hw 23 rfl) (tw hw 10 rfl), fun _ hx => nomatch hx⟩ trivial
  refine ⟨n, _, h1, h2, h3, hpost _ _ _ _ _ _ ⟨Cond.after_iff.mpr rfl, Cond.after_iff.mpr (eq_i res_at (Term.int_eval (1)) rfl), trivial⟩ ⟨hq.1, hq.2.1, hq.2.2.1, (hq.2.2.2.sift fun y hy => Or.inr (N y hy)).mono (by decide) (by decide)⟩⟩
theorem main_1_1 : Claimed_1_1 := comes_1 fun _ _ _ _ _ _ h hF => ⟨h.1, hF⟩
theorem main_1_2 : Claimed_1_2 := comes_1 fun _ _ _ _ _ _ h hF => ⟨h.2.1, hF⟩
end Jvm.Pilot.@@N@@
namespace Jvm.Pilot.@@N@@
open Jvm Jvm.ClassFile Sem Op Lib Jvm.Free Jvm.Stand Jvm.Pilot.@@N@@.Jvm.D
/-! MADE BY PROGRAM (witnessworld.py) out of the Statement's table words and the real class files: 26 classes; the members and pool entries that the words name. The judged class is class 1, her method 4. -/
namespace start1
open Jvm.ClassFile
def u (s : String) : CpInfo := .utf8 (stringToUtf16 s)
/-- a pool by its gaps: so many unusable entries, then the entry; so many at the end -/
def gap : Nat → List CpInfo → List CpInfo
  | 0, r => r
  | n + 1, r => .unusable :: gap n r
def poolList (es : List (Nat × CpInfo)) (last : Nat) : List CpInfo := es.foldr (fun e r => gap e.1 (e.2 :: r)) (gap last [])
def pool (es : List (Nat × CpInfo)) (last : Nat) : Array CpInfo := ⟨poolList es last⟩
def fileOf (pool : Array CpInfo) (this : Nat) (attrs : Array Attribute := #[]) (ms : Array MethodInfo := #[]) (fl : Nat := 33) (sup : Nat := 0) (ifs : Array Nat := #[]) (fds : Array FieldInfo := #[]) : ClassFile where
  minorVersion := 0
  majorVersion := 65
  constantPool := pool
  accessFlags := fl
  thisClass := this
  superClass := sup
  interfaces := ifs
  fields := fds
  methods := ms
  attributes := attrs
def plain (name : String) (sup : Option ClassId) : Class where
  name := name
  kind := .ordinary
  loader := none
  accessFlags := 33
  super := sup
  interfaces := #[]
  cf := none
  fields := #[]
  methods := #[]
  instanceTypes := #[]
  staticTypes := #[]
  resolved := #[]
  callSites := []
  init := .initialized
  statics := none
  mirror := none

def pool0 : Array CpInfo := pool [(5, u "<init>"), (0, u "()V"), (1, .class_ 10), (1, u "java/lang/Object")] 113

def k0c0 : Code := { maxStack := 0, maxLocals := 1, code := object_method_1_code, exceptionTable := #[], attributes := #[] }
def k0m0 : Method := { name := "<init>", desc := "()V", sig := { parameters := [], returnType := none }, accessFlags := 1, code := some k0c0 }
/-- java/lang/Object -/
def k0 : Class := { plain "java/lang/Object" none with
  accessFlags := 33
  interfaces := #[]
  cf := some (fileOf pool0 8 #[] #[{ accessFlags := 1, nameIndex := 5, descriptorIndex := 6, attributes := #[] }] 33 0 #[] #[])
  fields := #[]
  methods := #[k0m0]
  instanceTypes := #[]
  staticTypes := #[]
  resolved := Array.replicate 124 none
  statics := none }

def pool1 : Array CpInfo := pool [(2, .class_ 4), (1, u "java/lang/Object"), (0, u "<init>"), (0, u "()V"), (0, .methodref 8 9), (0, .class_ 10), (0, .nameAndType 11 12), (0, u "se/bryggan/saml/EidAttributeScopePinLaw"), (0, u "pick"), (0, u "(CCCCI)C"), (0, .class_ 14), (0, u "java/lang/String"), (0, .methodref 13 16), (0, .nameAndType 5 17), (0, u "([C)V"), (0, .integer 2147483647), (0, .methodref 8 20), (0, .nameAndType 21 22), (0, u "ch"), (0, u "(I)C"), (0, .methodref 8 24), (0, .nameAndType 25 26), (0, u "str"), (0, u "(CCCCII)Ljava/lang/String;"), (0, .methodref 28 29), (0, .class_ 30), (0, .nameAndType 31 32), (0, u "se/bryggan/saml/EidAttribute"), (0, u "scope"), (0, u "(Ljava/lang/String;)Ljava/util/Optional;"), (0, .methodref 34 35), (0, .class_ 36), (0, .nameAndType 37 38), (0, u "java/util/Optional"), (0, u "isPresent"), (0, u "()Z"), (0, .methodref 34 40), (0, .nameAndType 41 42), (0, u "get"), (0, u "()Ljava/lang/Object;"), (0, .methodref 13 44), (0, .nameAndType 45 46), (0, u "equals"), (0, u "(Ljava/lang/Object;)Z"), (5, u "law"), (0, u "(IIIII)Z")] 2

def k1m0 : Method := { name := "<init>", desc := "()V", sig := { parameters := [], returnType := none }, accessFlags := 1, code := none }
def k1c1 : Code := { maxStack := 2, maxLocals := 1, code := method_2_code, exceptionTable := #[], attributes := #[] }
def k1m1 : Method := { name := "ch", desc := "(I)C", sig := { parameters := [.int], returnType := some .char }, accessFlags := 10, code := some k1c1 }
def k1c2 : Code := { maxStack := 2, maxLocals := 5, code := method_3_code, exceptionTable := #[], attributes := #[] }
def k1m2 : Method := { name := "pick", desc := "(CCCCI)C", sig := { parameters := [.char, .char, .char, .char, .int], returnType := some .char }, accessFlags := 10, code := some k1c2 }
def k1c3 : Code := { maxStack := 8, maxLocals := 8, code := method_4_code, exceptionTable := #[], attributes := #[] }
def k1m3 : Method := { name := "str", desc := "(CCCCII)Ljava/lang/String;", sig := { parameters := [.char, .char, .char, .char, .int, .int], returnType := some (.object "java/lang/String") }, accessFlags := 10, code := some k1c3 }
def k1c4 : Code := { maxStack := 7, maxLocals := 13, code := code, exceptionTable := #[], attributes := #[] }
def k1m4 : Method := { name := "law", desc := "(IIIII)Z", sig := { parameters := [.int, .int, .int, .int, .int], returnType := some .boolean }, accessFlags := 9, code := some k1c4 }
/-- se/bryggan/saml/EidAttributeScopePinLaw -/
def k1 : Class := { plain "se/bryggan/saml/EidAttributeScopePinLaw" (some 0) with
  accessFlags := 49
  interfaces := #[]
  cf := some (fileOf pool1 8 #[] #[{ accessFlags := 1, nameIndex := 5, descriptorIndex := 6, attributes := #[] }, { accessFlags := 10, nameIndex := 21, descriptorIndex := 22, attributes := #[] }, { accessFlags := 10, nameIndex := 11, descriptorIndex := 12, attributes := #[] }, { accessFlags := 10, nameIndex := 25, descriptorIndex := 26, attributes := #[] }, { accessFlags := 9, nameIndex := 52, descriptorIndex := 53, attributes := #[] }] 49 2 #[] #[])
  fields := #[]
  methods := #[k1m0, k1m1, k1m2, k1m3, k1m4]
  instanceTypes := #[]
  staticTypes := #[]
  resolved := Array.replicate 56 none
  statics := none }

def pool2 : Array CpInfo := pool [(1, .class_ 2), (0, u "java/io/Serializable"), (0, .class_ 4), (0, u "java/lang/Object")] 2

/-- java/io/Serializable -/
def k2 : Class := { plain "java/io/Serializable" (some 0) with
  accessFlags := 1537
  interfaces := #[]
  cf := some (fileOf pool2 1 #[] #[] 1537 3 #[] #[])
  fields := #[]
  methods := #[]
  instanceTypes := #[]
  staticTypes := #[]
  resolved := Array.replicate 7 none
  statics := none }

def pool3 : Array CpInfo := pool [(1, .class_ 2), (0, u "java/lang/Comparable"), (0, .class_ 4), (0, u "java/lang/Object")] 7

/-- java/lang/Comparable -/
def k3 : Class := { plain "java/lang/Comparable" (some 0) with
  accessFlags := 1537
  interfaces := #[]
  cf := some (fileOf pool3 1 #[] #[] 1537 3 #[] #[])
  fields := #[]
  methods := #[]
  instanceTypes := #[]
  staticTypes := #[]
  resolved := Array.replicate 12 none
  statics := none }

def pool4 : Array CpInfo := pool [(2, .class_ 4), (1, u "java/lang/CharSequence"), (42, .class_ 48), (0, u "java/lang/CharSequence$1CodePointIterator"), (10, .class_ 60), (0, u "java/lang/CharSequence$1CharIterator"), (5, .class_ 67), (0, u "java/lang/Object")] 63

/-- java/lang/CharSequence -/
def k4 : Class := { plain "java/lang/CharSequence" (some 0) with
  accessFlags := 1537
  interfaces := #[]
  cf := some (fileOf pool4 2 #[.nestMembers #[47, 59]] #[] 1537 66 #[] #[])
  fields := #[]
  methods := #[]
  instanceTypes := #[]
  staticTypes := #[]
  resolved := Array.replicate 131 none
  statics := none }

def pool5 : Array CpInfo := pool [(1, .class_ 2), (0, u "java/lang/constant/Constable"), (0, .class_ 4), (0, u "java/lang/Object")] 6

/-- java/lang/constant/Constable -/
def k5 : Class := { plain "java/lang/constant/Constable" (some 0) with
  accessFlags := 1537
  interfaces := #[]
  cf := some (fileOf pool5 1 #[] #[] 1537 3 #[] #[])
  fields := #[]
  methods := #[]
  instanceTypes := #[]
  staticTypes := #[]
  resolved := Array.replicate 11 none
  statics := none }

def pool6 : Array CpInfo := pool [(1, .class_ 2), (0, u "java/lang/constant/ConstantDesc"), (0, .class_ 4), (0, u "java/lang/Object")] 32

/-- java/lang/constant/ConstantDesc -/
def k6 : Class := { plain "java/lang/constant/ConstantDesc" (some 0) with
  accessFlags := 1537
  interfaces := #[]
  cf := some (fileOf pool6 1 #[] #[] 1537 3 #[] #[])
  fields := #[]
  methods := #[]
  instanceTypes := #[]
  staticTypes := #[]
  resolved := Array.replicate 37 none
  statics := none }

def pool7 : Array CpInfo := pool [(1, .methodref 2 3), (0, .class_ 4), (0, .nameAndType 5 6), (0, u "java/lang/Object"), (0, u "<init>"), (0, u "()V"), (0, .string 8), (0, u ""), (0, .fieldref 10 11), (0, .class_ 12), (0, .nameAndType 13 14), (0, u "java/lang/String"), (0, u "value"), (0, u "[B"), (0, .fieldref 10 16), (0, .nameAndType 17 18), (0, u "coder"), (0, u "B"), (2, u "hash"), (0, u "I"), (2, u "hashIsZero"), (0, u "Z"), (0, .methodref 10 28), (0, .nameAndType 5 29), (0, u "([CIILjava/lang/Void;)V"), (8, .fieldref 10 39), (0, .nameAndType 40 26), (0, u "COMPACT_STRINGS"), (1, .class_ 44), (1, u "java/lang/StringUTF16"), (0, u "compress"), (1, .methodref 42 48), (0, .nameAndType 49 50), (0, u "coderFromArrayLen"), (0, u "([BI)B"), (46, u "([BII)I"), (9, .class_ 109), (1, u "java/lang/StringLatin1"), (32, u "()Z"), (34, .methodref 42 178), (0, .nameAndType 45 179), (0, u "([CII)[B"), (31, u "([BB)V"), (122, u "()I"), (0, .methodref 10 336), (0, .nameAndType 17 337), (0, u "()B"), (154, .methodref 10 493), (0, .nameAndType 494 142), (0, u "isLatin1"), (10, .methodref 10 506), (0, .nameAndType 507 334), (0, u "length"), (5, u "checkFromToIndex"), (7, .methodref 10 522), (0, .nameAndType 523 524), (0, u "checkBoundsBeginEnd"), (0, u "(III)V"), (16, .methodref 107 542), (0, .nameAndType 543 544), (0, u "equals"), (0, u "([B[B)Z"), (28, u "(Ljava/lang/Object;)Z"), (1, .class_ 576), (0, u "java/lang/CharSequence"), (22, u "CASE_INSENSITIVE_ORDER"), (0, u "Ljava/util/Comparator;"), (35, u "(II)I"), (4, .methodref 10 642), (0, .nameAndType 643 636), (0, u "lastIndexOf"), (0, .methodref 107 645), (0, .nameAndType 643 97), (35, .methodref 10 682), (0, .nameAndType 683 684), (0, u "substring"), (0, u "(II)Ljava/lang/String;"), (0, .methodref 107 686), (0, .nameAndType 687 688), (0, u "newString"), (0, u "([BII)Ljava/lang/String;"), (76, u "(I)I"), (126, u "(I)Ljava/lang/String;"), (117, u "([C)V"), (42, .fieldref 1054 1055), (0, .class_ 1056), (0, .nameAndType 1057 1058), (0, u "jdk/internal/util/Preconditions"), (0, u "SIOOBE_FORMATTER"), (0, u "Ljava/util/function/BiFunction;"), (3, .methodref 1054 1063), (0, .nameAndType 513 1064), (0, u "(IIILjava/util/function/BiFunction;)I"), (36, u "serialPersistentFields"), (0, u "[Ljava/io/ObjectStreamField;"), (0, .class_ 1104), (0, u "java/lang/String$CaseInsensitiveComparator"), (1, .class_ 1107), (0, u "java/io/Serializable"), (0, .class_ 1109), (0, u "java/lang/Comparable"), (0, .class_ 1111), (0, u "java/lang/constant/Constable"), (0, .class_ 1113), (0, u "java/lang/constant/ConstantDesc"), (2, u "serialVersionUID"), (0, u "J"), (3, u "REPL"), (0, u "C"), (2, u "LATIN1"), (1, u "UTF16")] 323

def k7m0 : Method := { name := "<init>", desc := "()V", sig := { parameters := [], returnType := none }, accessFlags := 1, code := none }
def k7c1 : Code := { maxStack := 5, maxLocals := 2, code := jdk_42_method_3_code, exceptionTable := #[], attributes := #[] }
def k7m1 : Method := { name := "<init>", desc := "([C)V", sig := { parameters := [(.array .char)], returnType := none }, accessFlags := 1, code := some k7c1 }
def k7c2 : Code := { maxStack := 2, maxLocals := 1, code := jdk_42_method_54_code, exceptionTable := #[], attributes := #[] }
def k7m2 : Method := { name := "length", desc := "()I", sig := { parameters := [], returnType := some .int }, accessFlags := 1, code := some k7c2 }
def k7c3 : Code := { maxStack := 2, maxLocals := 3, code := jdk_42_method_66_code, exceptionTable := #[], attributes := #[] }
def k7m3 : Method := { name := "equals", desc := "(Ljava/lang/Object;)Z", sig := { parameters := [(.object "java/lang/Object")], returnType := some .boolean }, accessFlags := 1, code := some k7c3 }
def k7c4 : Code := { maxStack := 4, maxLocals := 2, code := jdk_42_method_82_code, exceptionTable := #[], attributes := #[] }
def k7m4 : Method := { name := "lastIndexOf", desc := "(I)I", sig := { parameters := [.int], returnType := some .int }, accessFlags := 1, code := some k7c4 }
def k7c5 : Code := { maxStack := 3, maxLocals := 3, code := jdk_42_method_83_code, exceptionTable := #[], attributes := #[] }
def k7m5 : Method := { name := "lastIndexOf", desc := "(II)I", sig := { parameters := [.int, .int], returnType := some .int }, accessFlags := 1, code := some k7c5 }
def k7c6 : Code := { maxStack := 3, maxLocals := 2, code := jdk_42_method_91_code, exceptionTable := #[], attributes := #[] }
def k7m6 : Method := { name := "substring", desc := "(I)Ljava/lang/String;", sig := { parameters := [.int], returnType := some (.object "java/lang/String") }, accessFlags := 1, code := some k7c6 }
def k7c7 : Code := { maxStack := 3, maxLocals := 5, code := jdk_42_method_92_code, exceptionTable := #[], attributes := #[] }
def k7m7 : Method := { name := "substring", desc := "(II)Ljava/lang/String;", sig := { parameters := [.int, .int], returnType := some (.object "java/lang/String") }, accessFlags := 1, code := some k7c7 }
def k7c8 : Code := { maxStack := 4, maxLocals := 6, code := jdk_42_method_149_code, exceptionTable := #[], attributes := #[] }
def k7m8 : Method := { name := "<init>", desc := "([CIILjava/lang/Void;)V", sig := { parameters := [(.array .char), .int, .int, (.object "java/lang/Void")], returnType := none }, accessFlags := 2, code := some k7c8 }
def k7c9 : Code := { maxStack := 2, maxLocals := 3, code := jdk_42_method_151_code, exceptionTable := #[], attributes := #[] }
def k7m9 : Method := { name := "<init>", desc := "([BB)V", sig := { parameters := [(.array .byte), .byte], returnType := none }, accessFlags := 0, code := some k7c9 }
def k7c10 : Code := { maxStack := 1, maxLocals := 1, code := jdk_42_method_152_code, exceptionTable := #[], attributes := #[] }
def k7m10 : Method := { name := "coder", desc := "()B", sig := { parameters := [], returnType := some .byte }, accessFlags := 0, code := some k7c10 }
def k7c11 : Code := { maxStack := 1, maxLocals := 1, code := jdk_42_method_154_code, exceptionTable := #[], attributes := #[] }
def k7m11 : Method := { name := "isLatin1", desc := "()Z", sig := { parameters := [], returnType := some .boolean }, accessFlags := 0, code := some k7c11 }
def k7c12 : Code := { maxStack := 4, maxLocals := 3, code := jdk_42_method_158_code, exceptionTable := #[], attributes := #[] }
def k7m12 : Method := { name := "checkBoundsBeginEnd", desc := "(III)V", sig := { parameters := [.int, .int, .int], returnType := none }, accessFlags := 8, code := some k7c12 }
/-- java/lang/String -/
def k7 : Class := { plain "java/lang/String" (some 0) with
  accessFlags := 49
  interfaces := #[2, 3, 4, 5, 6]
  cf := some (fileOf pool7 10 #[.nestMembers #[1103]] #[{ accessFlags := 1, nameIndex := 5, descriptorIndex := 6, attributes := #[] }, { accessFlags := 1, nameIndex := 5, descriptorIndex := 1010, attributes := #[] }, { accessFlags := 1, nameIndex := 507, descriptorIndex := 334, attributes := #[] }, { accessFlags := 1, nameIndex := 543, descriptorIndex := 573, attributes := #[] }, { accessFlags := 1, nameIndex := 643, descriptorIndex := 765, attributes := #[] }, { accessFlags := 1, nameIndex := 643, descriptorIndex := 636, attributes := #[] }, { accessFlags := 1, nameIndex := 683, descriptorIndex := 892, attributes := #[] }, { accessFlags := 1, nameIndex := 683, descriptorIndex := 684, attributes := #[] }, { accessFlags := 2, nameIndex := 5, descriptorIndex := 29, attributes := #[] }, { accessFlags := 0, nameIndex := 5, descriptorIndex := 211, attributes := #[] }, { accessFlags := 0, nameIndex := 17, descriptorIndex := 337, attributes := #[] }, { accessFlags := 0, nameIndex := 494, descriptorIndex := 142, attributes := #[] }, { accessFlags := 8, nameIndex := 523, descriptorIndex := 524, attributes := #[] }] 49 2 #[1106, 1108, 575, 1110, 1112] #[{ accessFlags := 18, nameIndex := 13, descriptorIndex := 14, attributes := #[] }, { accessFlags := 18, nameIndex := 17, descriptorIndex := 18, attributes := #[] }, { accessFlags := 2, nameIndex := 21, descriptorIndex := 22, attributes := #[] }, { accessFlags := 2, nameIndex := 25, descriptorIndex := 26, attributes := #[] }, { accessFlags := 26, nameIndex := 1116, descriptorIndex := 1117, attributes := #[] }, { accessFlags := 24, nameIndex := 40, descriptorIndex := 26, attributes := #[] }, { accessFlags := 26, nameIndex := 1101, descriptorIndex := 1102, attributes := #[] }, { accessFlags := 26, nameIndex := 1121, descriptorIndex := 1122, attributes := #[] }, { accessFlags := 25, nameIndex := 599, descriptorIndex := 600, attributes := #[] }, { accessFlags := 24, nameIndex := 1125, descriptorIndex := 18, attributes := #[] }, { accessFlags := 24, nameIndex := 1127, descriptorIndex := 18, attributes := #[] }])
  fields := #[{ name := "value", type := (.array .byte), accessFlags := 18, slot := 0, constantValue := 0 }, { name := "coder", type := .byte, accessFlags := 18, slot := 1, constantValue := 0 }, { name := "hash", type := .int, accessFlags := 2, slot := 2, constantValue := 0 }, { name := "hashIsZero", type := .boolean, accessFlags := 2, slot := 3, constantValue := 0 }, { name := "serialVersionUID", type := .long, accessFlags := 26, slot := 0, constantValue := 0 }, { name := "COMPACT_STRINGS", type := .boolean, accessFlags := 24, slot := 1, constantValue := 0 }, { name := "serialPersistentFields", type := (.array (.object "java/io/ObjectStreamField")), accessFlags := 26, slot := 2, constantValue := 0 }, { name := "REPL", type := .char, accessFlags := 26, slot := 3, constantValue := 0 }, { name := "CASE_INSENSITIVE_ORDER", type := (.object "java/util/Comparator"), accessFlags := 25, slot := 4, constantValue := 0 }, { name := "LATIN1", type := .byte, accessFlags := 24, slot := 5, constantValue := 0 }, { name := "UTF16", type := .byte, accessFlags := 24, slot := 6, constantValue := 0 }]
  methods := #[k7m0, k7m1, k7m2, k7m3, k7m4, k7m5, k7m6, k7m7, k7m8, k7m9, k7m10, k7m11, k7m12]
  instanceTypes := #[(.array .byte), .byte, .int, .boolean]
  staticTypes := #[.long, .boolean, (.array (.object "java/io/ObjectStreamField")), .char, (.object "java/util/Comparator"), .byte, .byte]
  resolved := Array.replicate 1451 none
  statics := some 0 }

def pool8 : Array CpInfo := pool [(2, .class_ 4), (1, u "java/lang/Enum"), (0, u "name"), (0, u "Ljava/lang/String;"), (2, u "ordinal"), (0, u "I"), (1, .class_ 14), (1, u "java/lang/Object"), (4, u "hash"), (86, .class_ 108), (1, u "java/lang/Enum$EnumDesc"), (2, .class_ 112), (0, u "java/lang/constant/Constable"), (0, .class_ 114), (0, u "java/lang/Comparable"), (0, .class_ 116), (0, u "java/io/Serializable")] 87

/-- java/lang/Enum -/
def k8 : Class := { plain "java/lang/Enum" (some 0) with
  accessFlags := 1057
  interfaces := #[5, 3, 2]
  cf := some (fileOf pool8 2 #[.nestMembers #[106]] #[] 1057 12 #[111, 113, 115] #[{ accessFlags := 18, nameIndex := 5, descriptorIndex := 6, attributes := #[] }, { accessFlags := 18, nameIndex := 9, descriptorIndex := 10, attributes := #[] }, { accessFlags := 2, nameIndex := 19, descriptorIndex := 10, attributes := #[] }])
  fields := #[{ name := "name", type := (.object "java/lang/String"), accessFlags := 18, slot := 0, constantValue := 0 }, { name := "ordinal", type := .int, accessFlags := 18, slot := 1, constantValue := 0 }, { name := "hash", type := .int, accessFlags := 2, slot := 2, constantValue := 0 }]
  methods := #[]
  instanceTypes := #[(.object "java/lang/String"), .int, .int]
  staticTypes := #[]
  resolved := Array.replicate 204 none
  statics := none }

def pool9 : Array CpInfo := pool [(1, .class_ 2), (0, u "se/bryggan/saml/EidAttribute"), (2, u "SN"), (0, u "Lse/bryggan/saml/EidAttribute;"), (2, u "GIVEN_NAME"), (2, u "DISPLAY_NAME"), (2, u "GENDER"), (2, u "PERSONAL_IDENTITY_NUMBER"), (2, u "PREVIOUS_PERSONAL_IDENTITY_NUMBER"), (2, u "DATE_OF_BIRTH"), (2, u "BIRTH_NAME"), (2, u "STREET"), (2, u "POST_OFFICE_BOX"), (2, u "POSTAL_CODE"), (2, u "L"), (2, u "C"), (2, u "PLACE_OF_BIRTH"), (2, u "COUNTRY_OF_CITIZENSHIP"), (2, u "COUNTRY_OF_RESIDENCE"), (2, u "TELEPHONE_NUMBER"), (2, u "MOBILE"), (2, u "MAIL"), (2, u "O"), (2, u "OU"), (2, u "ORGANIZATION_IDENTIFIER"), (2, u "ORG_AFFILIATION"), (2, u "TRANSACTION_IDENTIFIER"), (2, u "AUTH_CONTEXT_PARAMS"), (2, u "USER_CERTIFICATE"), (2, u "USER_SIGNATURE"), (2, u "AUTH_SERVER_SIGNATURE"), (2, u "SAD"), (2, u "SIGN_MESSAGE_DIGEST"), (2, u "PRID"), (2, u "PRID_PERSISTENCE"), (2, u "PERSONAL_IDENTITY_NUMBER_BINDING"), (2, u "MAPPED_PERSONAL_IDENTITY_NUMBER"), (2, u "EIDAS_PERSON_IDENTIFIER"), (2, u "EIDAS_NATURAL_PERSON_ADDRESS"), (2, u "EMPLOYEE_HSA_ID"), (2, u "$VALUES"), (0, u "[Lse/bryggan/saml/EidAttribute;"), (6, .class_ 127), (1, u "java/lang/Enum"), (8, u "friendlyName"), (0, u "Ljava/lang/String;"), (2, u "samlName"), (2, u "BY_SAML_NAME"), (0, u "Ljava/util/Map;"), (7, .class_ 154), (1, u "java/util/Optional"), (1, u "(Ljava/lang/Object;)Ljava/util/Optional;"), (0, .methodref 158 159), (0, .class_ 160), (0, .nameAndType 161 162), (0, u "java/lang/String"), (0, u "lastIndexOf"), (0, u "(I)I"), (0, .methodref 152 164), (0, .nameAndType 165 166), (0, u "empty"), (0, u "()Ljava/util/Optional;"), (0, .methodref 158 168), (0, .nameAndType 169 170), (0, u "substring"), (0, u "(I)Ljava/lang/String;"), (0, .methodref 152 172), (0, .nameAndType 173 156), (0, u "of"), (230, u "(Ljava/lang/String;)Ljava/util/Optional;"), (5, u "scope")] 26

def k9c0 : Code := { maxStack := 3, maxLocals := 2, code := prog_20_method_8_code, exceptionTable := #[], attributes := #[] }
def k9m0 : Method := { name := "scope", desc := "(Ljava/lang/String;)Ljava/util/Optional;", sig := { parameters := [(.object "java/lang/String")], returnType := some (.object "java/util/Optional") }, accessFlags := 8, code := some k9c0 }
/-- se/bryggan/saml/EidAttribute -/
def k9 : Class := { plain "se/bryggan/saml/EidAttribute" (some 8) with
  accessFlags := 16432
  interfaces := #[]
  cf := some (fileOf pool9 1 #[] #[{ accessFlags := 8, nameIndex := 410, descriptorIndex := 404, attributes := #[] }] 16432 125 #[] #[{ accessFlags := 16409, nameIndex := 5, descriptorIndex := 6, attributes := #[] }, { accessFlags := 16409, nameIndex := 9, descriptorIndex := 6, attributes := #[] }, { accessFlags := 16409, nameIndex := 12, descriptorIndex := 6, attributes := #[] }, { accessFlags := 16409, nameIndex := 15, descriptorIndex := 6, attributes := #[] }, { accessFlags := 16409, nameIndex := 18, descriptorIndex := 6, attributes := #[] }, { accessFlags := 16409, nameIndex := 21, descriptorIndex := 6, attributes := #[] }, { accessFlags := 16409, nameIndex := 24, descriptorIndex := 6, attributes := #[] }, { accessFlags := 16409, nameIndex := 27, descriptorIndex := 6, attributes := #[] }, { accessFlags := 16409, nameIndex := 30, descriptorIndex := 6, attributes := #[] }, { accessFlags := 16409, nameIndex := 33, descriptorIndex := 6, attributes := #[] }, { accessFlags := 16409, nameIndex := 36, descriptorIndex := 6, attributes := #[] }, { accessFlags := 16409, nameIndex := 39, descriptorIndex := 6, attributes := #[] }, { accessFlags := 16409, nameIndex := 42, descriptorIndex := 6, attributes := #[] }, { accessFlags := 16409, nameIndex := 45, descriptorIndex := 6, attributes := #[] }, { accessFlags := 16409, nameIndex := 48, descriptorIndex := 6, attributes := #[] }, { accessFlags := 16409, nameIndex := 51, descriptorIndex := 6, attributes := #[] }, { accessFlags := 16409, nameIndex := 54, descriptorIndex := 6, attributes := #[] }, { accessFlags := 16409, nameIndex := 57, descriptorIndex := 6, attributes := #[] }, { accessFlags := 16409, nameIndex := 60, descriptorIndex := 6, attributes := #[] }, { accessFlags := 16409, nameIndex := 63, descriptorIndex := 6, attributes := #[] }, { accessFlags := 16409, nameIndex := 66, descriptorIndex := 6, attributes := #[] }, { accessFlags := 16409, nameIndex := 69, descriptorIndex := 6, attributes := #[] }, { accessFlags := 16409, nameIndex := 72, descriptorIndex := 6, attributes := #[] }, { accessFlags := 16409, nameIndex := 75, descriptorIndex := 6, attributes := #[] }, { accessFlags := 16409, nameIndex := 78, descriptorIndex := 6, attributes := #[] }, { accessFlags := 16409, nameIndex := 81, descriptorIndex := 6, attributes := #[] }, { accessFlags := 16409, nameIndex := 84, descriptorIndex := 6, attributes := #[] }, { accessFlags := 16409, nameIndex := 87, descriptorIndex := 6, attributes := #[] }, { accessFlags := 16409, nameIndex := 90, descriptorIndex := 6, attributes := #[] }, { accessFlags := 16409, nameIndex := 93, descriptorIndex := 6, attributes := #[] }, { accessFlags := 16409, nameIndex := 96, descriptorIndex := 6, attributes := #[] }, { accessFlags := 16409, nameIndex := 99, descriptorIndex := 6, attributes := #[] }, { accessFlags := 16409, nameIndex := 102, descriptorIndex := 6, attributes := #[] }, { accessFlags := 16409, nameIndex := 105, descriptorIndex := 6, attributes := #[] }, { accessFlags := 16409, nameIndex := 108, descriptorIndex := 6, attributes := #[] }, { accessFlags := 16409, nameIndex := 111, descriptorIndex := 6, attributes := #[] }, { accessFlags := 16409, nameIndex := 114, descriptorIndex := 6, attributes := #[] }, { accessFlags := 26, nameIndex := 143, descriptorIndex := 144, attributes := #[] }, { accessFlags := 18, nameIndex := 136, descriptorIndex := 137, attributes := #[] }, { accessFlags := 18, nameIndex := 140, descriptorIndex := 137, attributes := #[] }, { accessFlags := 4122, nameIndex := 117, descriptorIndex := 118, attributes := #[] }])
  fields := #[{ name := "SN", type := (.object "se/bryggan/saml/EidAttribute"), accessFlags := 16409, slot := 0, constantValue := 0 }, { name := "GIVEN_NAME", type := (.object "se/bryggan/saml/EidAttribute"), accessFlags := 16409, slot := 1, constantValue := 0 }, { name := "DISPLAY_NAME", type := (.object "se/bryggan/saml/EidAttribute"), accessFlags := 16409, slot := 2, constantValue := 0 }, { name := "GENDER", type := (.object "se/bryggan/saml/EidAttribute"), accessFlags := 16409, slot := 3, constantValue := 0 }, { name := "PERSONAL_IDENTITY_NUMBER", type := (.object "se/bryggan/saml/EidAttribute"), accessFlags := 16409, slot := 4, constantValue := 0 }, { name := "PREVIOUS_PERSONAL_IDENTITY_NUMBER", type := (.object "se/bryggan/saml/EidAttribute"), accessFlags := 16409, slot := 5, constantValue := 0 }, { name := "DATE_OF_BIRTH", type := (.object "se/bryggan/saml/EidAttribute"), accessFlags := 16409, slot := 6, constantValue := 0 }, { name := "BIRTH_NAME", type := (.object "se/bryggan/saml/EidAttribute"), accessFlags := 16409, slot := 7, constantValue := 0 }, { name := "STREET", type := (.object "se/bryggan/saml/EidAttribute"), accessFlags := 16409, slot := 8, constantValue := 0 }, { name := "POST_OFFICE_BOX", type := (.object "se/bryggan/saml/EidAttribute"), accessFlags := 16409, slot := 9, constantValue := 0 }, { name := "POSTAL_CODE", type := (.object "se/bryggan/saml/EidAttribute"), accessFlags := 16409, slot := 10, constantValue := 0 }, { name := "L", type := (.object "se/bryggan/saml/EidAttribute"), accessFlags := 16409, slot := 11, constantValue := 0 }, { name := "C", type := (.object "se/bryggan/saml/EidAttribute"), accessFlags := 16409, slot := 12, constantValue := 0 }, { name := "PLACE_OF_BIRTH", type := (.object "se/bryggan/saml/EidAttribute"), accessFlags := 16409, slot := 13, constantValue := 0 }, { name := "COUNTRY_OF_CITIZENSHIP", type := (.object "se/bryggan/saml/EidAttribute"), accessFlags := 16409, slot := 14, constantValue := 0 }, { name := "COUNTRY_OF_RESIDENCE", type := (.object "se/bryggan/saml/EidAttribute"), accessFlags := 16409, slot := 15, constantValue := 0 }, { name := "TELEPHONE_NUMBER", type := (.object "se/bryggan/saml/EidAttribute"), accessFlags := 16409, slot := 16, constantValue := 0 }, { name := "MOBILE", type := (.object "se/bryggan/saml/EidAttribute"), accessFlags := 16409, slot := 17, constantValue := 0 }, { name := "MAIL", type := (.object "se/bryggan/saml/EidAttribute"), accessFlags := 16409, slot := 18, constantValue := 0 }, { name := "O", type := (.object "se/bryggan/saml/EidAttribute"), accessFlags := 16409, slot := 19, constantValue := 0 }, { name := "OU", type := (.object "se/bryggan/saml/EidAttribute"), accessFlags := 16409, slot := 20, constantValue := 0 }, { name := "ORGANIZATION_IDENTIFIER", type := (.object "se/bryggan/saml/EidAttribute"), accessFlags := 16409, slot := 21, constantValue := 0 }, { name := "ORG_AFFILIATION", type := (.object "se/bryggan/saml/EidAttribute"), accessFlags := 16409, slot := 22, constantValue := 0 }, { name := "TRANSACTION_IDENTIFIER", type := (.object "se/bryggan/saml/EidAttribute"), accessFlags := 16409, slot := 23, constantValue := 0 }, { name := "AUTH_CONTEXT_PARAMS", type := (.object "se/bryggan/saml/EidAttribute"), accessFlags := 16409, slot := 24, constantValue := 0 }, { name := "USER_CERTIFICATE", type := (.object "se/bryggan/saml/EidAttribute"), accessFlags := 16409, slot := 25, constantValue := 0 }, { name := "USER_SIGNATURE", type := (.object "se/bryggan/saml/EidAttribute"), accessFlags := 16409, slot := 26, constantValue := 0 }, { name := "AUTH_SERVER_SIGNATURE", type := (.object "se/bryggan/saml/EidAttribute"), accessFlags := 16409, slot := 27, constantValue := 0 }, { name := "SAD", type := (.object "se/bryggan/saml/EidAttribute"), accessFlags := 16409, slot := 28, constantValue := 0 }, { name := "SIGN_MESSAGE_DIGEST", type := (.object "se/bryggan/saml/EidAttribute"), accessFlags := 16409, slot := 29, constantValue := 0 }, { name := "PRID", type := (.object "se/bryggan/saml/EidAttribute"), accessFlags := 16409, slot := 30, constantValue := 0 }, { name := "PRID_PERSISTENCE", type := (.object "se/bryggan/saml/EidAttribute"), accessFlags := 16409, slot := 31, constantValue := 0 }, { name := "PERSONAL_IDENTITY_NUMBER_BINDING", type := (.object "se/bryggan/saml/EidAttribute"), accessFlags := 16409, slot := 32, constantValue := 0 }, { name := "MAPPED_PERSONAL_IDENTITY_NUMBER", type := (.object "se/bryggan/saml/EidAttribute"), accessFlags := 16409, slot := 33, constantValue := 0 }, { name := "EIDAS_PERSON_IDENTIFIER", type := (.object "se/bryggan/saml/EidAttribute"), accessFlags := 16409, slot := 34, constantValue := 0 }, { name := "EIDAS_NATURAL_PERSON_ADDRESS", type := (.object "se/bryggan/saml/EidAttribute"), accessFlags := 16409, slot := 35, constantValue := 0 }, { name := "EMPLOYEE_HSA_ID", type := (.object "se/bryggan/saml/EidAttribute"), accessFlags := 16409, slot := 36, constantValue := 0 }, { name := "BY_SAML_NAME", type := (.object "java/util/Map"), accessFlags := 26, slot := 37, constantValue := 0 }, { name := "friendlyName", type := (.object "java/lang/String"), accessFlags := 18, slot := 3, constantValue := 0 }, { name := "samlName", type := (.object "java/lang/String"), accessFlags := 18, slot := 4, constantValue := 0 }, { name := "$VALUES", type := (.array (.object "se/bryggan/saml/EidAttribute")), accessFlags := 4122, slot := 38, constantValue := 0 }]
  methods := #[k9m0]
  instanceTypes := #[(.object "java/lang/String"), .int, .int, (.object "java/lang/String"), (.object "java/lang/String")]
  staticTypes := #[(.object "se/bryggan/saml/EidAttribute"), (.object "se/bryggan/saml/EidAttribute"), (.object "se/bryggan/saml/EidAttribute"), (.object "se/bryggan/saml/EidAttribute"), (.object "se/bryggan/saml/EidAttribute"), (.object "se/bryggan/saml/EidAttribute"), (.object "se/bryggan/saml/EidAttribute"), (.object "se/bryggan/saml/EidAttribute"), (.object "se/bryggan/saml/EidAttribute"), (.object "se/bryggan/saml/EidAttribute"), (.object "se/bryggan/saml/EidAttribute"), (.object "se/bryggan/saml/EidAttribute"), (.object "se/bryggan/saml/EidAttribute"), (.object "se/bryggan/saml/EidAttribute"), (.object "se/bryggan/saml/EidAttribute"), (.object "se/bryggan/saml/EidAttribute"), (.object "se/bryggan/saml/EidAttribute"), (.object "se/bryggan/saml/EidAttribute"), (.object "se/bryggan/saml/EidAttribute"), (.object "se/bryggan/saml/EidAttribute"), (.object "se/bryggan/saml/EidAttribute"), (.object "se/bryggan/saml/EidAttribute"), (.object "se/bryggan/saml/EidAttribute"), (.object "se/bryggan/saml/EidAttribute"), (.object "se/bryggan/saml/EidAttribute"), (.object "se/bryggan/saml/EidAttribute"), (.object "se/bryggan/saml/EidAttribute"), (.object "se/bryggan/saml/EidAttribute"), (.object "se/bryggan/saml/EidAttribute"), (.object "se/bryggan/saml/EidAttribute"), (.object "se/bryggan/saml/EidAttribute"), (.object "se/bryggan/saml/EidAttribute"), (.object "se/bryggan/saml/EidAttribute"), (.object "se/bryggan/saml/EidAttribute"), (.object "se/bryggan/saml/EidAttribute"), (.object "se/bryggan/saml/EidAttribute"), (.object "se/bryggan/saml/EidAttribute"), (.object "java/util/Map"), (.array (.object "se/bryggan/saml/EidAttribute"))]
  resolved := Array.replicate 437 none
  statics := none }

def pool10 : Array CpInfo := pool [(1, .class_ 2), (0, u "java/lang/String"), (1, .class_ 6), (1, u "java/lang/Object"), (0, u "<init>"), (0, u "()V"), (5, .class_ 16), (1, u "java/lang/StringLatin1"), (21, .methodref 39 40), (0, .class_ 41), (0, .nameAndType 42 43), (0, u "java/lang/Math"), (0, u "min"), (0, u "(II)I"), (44, .methodref 14 89), (0, .nameAndType 90 91), (0, u "canEncode"), (0, u "(I)Z"), (20, .methodref 1 113), (0, .nameAndType 7 114), (0, u "([BB)V"), (6, u "$assertionsDisabled"), (0, u "Z"), (8, .class_ 133), (1, u "java/util/Arrays"), (17, .string 152), (0, u ""), (43, u "newString"), (0, u "([BII)Ljava/lang/String;"), (23, .class_ 223), (1, u "java/lang/StringLatin1$LinesSpliterator"), (8, .methodref 131 233), (0, .nameAndType 234 235), (0, u "copyOfRange"), (0, u "([BII)[B"), (25, u "([BII)I"), (19, u "equals"), (0, u "([B[B)Z"), (26, u "lastIndexOf"), (80, .class_ 391), (0, u "java/lang/StringLatin1$CharsSpliterator")] 3

def k10m0 : Method := { name := "<init>", desc := "()V", sig := { parameters := [], returnType := none }, accessFlags := 0, code := none }
def k10c1 : Code := { maxStack := 2, maxLocals := 1, code := jdk_43_method_4_code, exceptionTable := #[], attributes := #[] }
def k10m1 : Method := { name := "canEncode", desc := "(I)Z", sig := { parameters := [.int], returnType := some .boolean }, accessFlags := 9, code := some k10c1 }
def k10c2 : Code := { maxStack := 3, maxLocals := 3, code := jdk_43_method_13_code, exceptionTable := #[], attributes := #[] }
def k10m2 : Method := { name := "equals", desc := "([B[B)Z", sig := { parameters := [(.array .byte), (.array .byte)], returnType := some .boolean }, accessFlags := 9, code := some k10c2 }
def k10c3 : Code := { maxStack := 3, maxLocals := 4, code := jdk_43_method_27_code, exceptionTable := #[], attributes := #[] }
def k10m3 : Method := { name := "lastIndexOf", desc := "([BII)I", sig := { parameters := [(.array .byte), .int, .int], returnType := some .int }, accessFlags := 9, code := some k10c3 }
def k10c4 : Code := { maxStack := 6, maxLocals := 3, code := jdk_43_method_47_code, exceptionTable := #[], attributes := #[] }
def k10m4 : Method := { name := "newString", desc := "([BII)Ljava/lang/String;", sig := { parameters := [(.array .byte), .int, .int], returnType := some (.object "java/lang/String") }, accessFlags := 9, code := some k10c4 }
/-- java/lang/StringLatin1 -/
def k10 : Class := { plain "java/lang/StringLatin1" (some 0) with
  accessFlags := 48
  interfaces := #[]
  cf := some (fileOf pool10 14 #[.nestMembers #[390, 221]] #[{ accessFlags := 0, nameIndex := 7, descriptorIndex := 8, attributes := #[] }, { accessFlags := 9, nameIndex := 90, descriptorIndex := 91, attributes := #[] }, { accessFlags := 9, nameIndex := 281, descriptorIndex := 282, attributes := #[] }, { accessFlags := 9, nameIndex := 309, descriptorIndex := 261, attributes := #[] }, { accessFlags := 9, nameIndex := 196, descriptorIndex := 197, attributes := #[] }] 48 4 #[] #[{ accessFlags := 4120, nameIndex := 121, descriptorIndex := 122, attributes := #[] }])
  fields := #[{ name := "$assertionsDisabled", type := .boolean, accessFlags := 4120, slot := 0, constantValue := 0 }]
  methods := #[k10m0, k10m1, k10m2, k10m3, k10m4]
  instanceTypes := #[]
  staticTypes := #[.boolean]
  resolved := Array.replicate 395 none
  statics := none }

def pool11 : Array CpInfo := pool [(1, .class_ 2), (0, u "java/lang/Math"), (1, .class_ 6), (1, u "java/lang/Object"), (0, u "<init>"), (0, u "()V"), (89, .class_ 100), (1, u "java/lang/Math$RandomNumberGeneratorHolder"), (71, u "negativeZeroFloatBits"), (0, u "J"), (2, u "negativeZeroDoubleBits"), (24, u "min"), (43, u "$assertionsDisabled"), (0, u "Z"), (88, u "(II)I"), (2, u "twoToTheDoubleScaleDown"), (0, u "D"), (4, u "twoToTheDoubleScaleUp"), (9, u "E"), (3, u "PI"), (2, u "TAU"), (2, u "DEGREES_TO_RADIANS"), (0, u "RADIANS_TO_DEGREES")] 94

def k11m0 : Method := { name := "<init>", desc := "()V", sig := { parameters := [], returnType := none }, accessFlags := 2, code := none }
def k11c1 : Code := { maxStack := 2, maxLocals := 2, code := jdk_29_method_69_code, exceptionTable := #[], attributes := #[] }
def k11m1 : Method := { name := "min", desc := "(II)I", sig := { parameters := [.int, .int], returnType := some .int }, accessFlags := 9, code := some k11c1 }
/-- java/lang/Math -/
def k11 : Class := { plain "java/lang/Math" (some 0) with
  accessFlags := 49
  interfaces := #[]
  cf := some (fileOf pool11 1 #[.nestMembers #[98]] #[{ accessFlags := 2, nameIndex := 7, descriptorIndex := 8, attributes := #[] }, { accessFlags := 9, nameIndex := 201, descriptorIndex := 335, attributes := #[] }] 49 4 #[] #[{ accessFlags := 25, nameIndex := 354, descriptorIndex := 339, attributes := #[] }, { accessFlags := 25, nameIndex := 358, descriptorIndex := 339, attributes := #[] }, { accessFlags := 25, nameIndex := 361, descriptorIndex := 339, attributes := #[] }, { accessFlags := 26, nameIndex := 364, descriptorIndex := 339, attributes := #[] }, { accessFlags := 26, nameIndex := 365, descriptorIndex := 339, attributes := #[] }, { accessFlags := 26, nameIndex := 172, descriptorIndex := 173, attributes := #[] }, { accessFlags := 26, nameIndex := 176, descriptorIndex := 173, attributes := #[] }, { accessFlags := 8, nameIndex := 344, descriptorIndex := 339, attributes := #[] }, { accessFlags := 8, nameIndex := 338, descriptorIndex := 339, attributes := #[] }, { accessFlags := 4120, nameIndex := 245, descriptorIndex := 246, attributes := #[] }])
  fields := #[{ name := "E", type := .double, accessFlags := 25, slot := 0, constantValue := 0 }, { name := "PI", type := .double, accessFlags := 25, slot := 1, constantValue := 0 }, { name := "TAU", type := .double, accessFlags := 25, slot := 2, constantValue := 0 }, { name := "DEGREES_TO_RADIANS", type := .double, accessFlags := 26, slot := 3, constantValue := 0 }, { name := "RADIANS_TO_DEGREES", type := .double, accessFlags := 26, slot := 4, constantValue := 0 }, { name := "negativeZeroFloatBits", type := .long, accessFlags := 26, slot := 5, constantValue := 0 }, { name := "negativeZeroDoubleBits", type := .long, accessFlags := 26, slot := 6, constantValue := 0 }, { name := "twoToTheDoubleScaleUp", type := .double, accessFlags := 8, slot := 7, constantValue := 0 }, { name := "twoToTheDoubleScaleDown", type := .double, accessFlags := 8, slot := 8, constantValue := 0 }, { name := "$assertionsDisabled", type := .boolean, accessFlags := 4120, slot := 9, constantValue := 0 }]
  methods := #[k11m0, k11m1]
  instanceTypes := #[]
  staticTypes := #[.double, .double, .double, .double, .double, .long, .long, .double, .double, .boolean]
  resolved := Array.replicate 460 none
  statics := none }

def pool12 : Array CpInfo := pool [(1, .fieldref 2 3), (0, .class_ 4), (0, .nameAndType 5 6), (0, u "java/util/Optional"), (0, u "EMPTY"), (0, u "Ljava/util/Optional;"), (0, .methodref 8 9), (0, .class_ 10), (0, .nameAndType 11 12), (0, u "java/lang/Object"), (0, u "<init>"), (0, u "()V"), (0, .fieldref 2 14), (0, .nameAndType 15 16), (0, u "value"), (0, u "Ljava/lang/Object;"), (0, .methodref 18 19), (0, .class_ 20), (0, .nameAndType 21 22), (0, u "java/util/Objects"), (0, u "requireNonNull"), (0, u "(Ljava/lang/Object;)Ljava/lang/Object;"), (0, .methodref 2 24), (0, .nameAndType 11 25), (0, u "(Ljava/lang/Object;)V"), (20, u "()Z"), (8, u "empty"), (0, u "()Ljava/util/Optional;"), (8, u "(Ljava/lang/Object;)Ljava/util/Optional;"), (2, u "isPresent"), (4, u "get"), (0, u "()Ljava/lang/Object;"), (7, u "of")] 104

def k12c0 : Code := { maxStack := 1, maxLocals := 1, code := jdk_32_method_1_code, exceptionTable := #[], attributes := #[] }
def k12m0 : Method := { name := "empty", desc := "()Ljava/util/Optional;", sig := { parameters := [], returnType := some (.object "java/util/Optional") }, accessFlags := 9, code := some k12c0 }
def k12c1 : Code := { maxStack := 2, maxLocals := 2, code := jdk_32_method_2_code, exceptionTable := #[], attributes := #[] }
def k12m1 : Method := { name := "<init>", desc := "(Ljava/lang/Object;)V", sig := { parameters := [(.object "java/lang/Object")], returnType := none }, accessFlags := 2, code := some k12c1 }
def k12c2 : Code := { maxStack := 3, maxLocals := 1, code := jdk_32_method_3_code, exceptionTable := #[], attributes := #[] }
def k12m2 : Method := { name := "of", desc := "(Ljava/lang/Object;)Ljava/util/Optional;", sig := { parameters := [(.object "java/lang/Object")], returnType := some (.object "java/util/Optional") }, accessFlags := 9, code := some k12c2 }
def k12c3 : Code := { maxStack := 3, maxLocals := 1, code := jdk_32_method_5_code, exceptionTable := #[], attributes := #[] }
def k12m3 : Method := { name := "get", desc := "()Ljava/lang/Object;", sig := { parameters := [], returnType := some (.object "java/lang/Object") }, accessFlags := 1, code := some k12c3 }
def k12c4 : Code := { maxStack := 1, maxLocals := 1, code := jdk_32_method_6_code, exceptionTable := #[], attributes := #[] }
def k12m4 : Method := { name := "isPresent", desc := "()Z", sig := { parameters := [], returnType := some .boolean }, accessFlags := 1, code := some k12c4 }
/-- java/util/Optional -/
def k12 : Class := { plain "java/util/Optional" (some 0) with
  accessFlags := 49
  interfaces := #[]
  cf := some (fileOf pool12 2 #[] #[{ accessFlags := 9, nameIndex := 55, descriptorIndex := 56, attributes := #[] }, { accessFlags := 2, nameIndex := 11, descriptorIndex := 25, attributes := #[] }, { accessFlags := 9, nameIndex := 82, descriptorIndex := 65, attributes := #[] }, { accessFlags := 1, nameIndex := 73, descriptorIndex := 74, attributes := #[] }, { accessFlags := 1, nameIndex := 68, descriptorIndex := 46, attributes := #[] }] 49 8 #[] #[{ accessFlags := 26, nameIndex := 5, descriptorIndex := 6, attributes := #[] }, { accessFlags := 18, nameIndex := 15, descriptorIndex := 16, attributes := #[] }])
  fields := #[{ name := "EMPTY", type := (.object "java/util/Optional"), accessFlags := 26, slot := 0, constantValue := 0 }, { name := "value", type := (.object "java/lang/Object"), accessFlags := 18, slot := 0, constantValue := 0 }]
  methods := #[k12m0, k12m1, k12m2, k12m3, k12m4]
  instanceTypes := #[(.object "java/lang/Object")]
  staticTypes := #[(.object "java/util/Optional")]
  resolved := Array.replicate 187 none
  statics := some 1 }

def pool13 : Array CpInfo := pool [(6, .class_ 8), (1, u "java/lang/Object"), (0, u "<init>"), (0, u "()V"), (1, .class_ 14), (1, u "java/lang/StringUTF16"), (31, u "$assertionsDisabled"), (0, u "Z"), (13, u "HI_BYTE_SHIFT"), (0, u "I"), (2, u "LO_BYTE_SHIFT"), (49, .methodref 12 116), (0, .nameAndType 117 118), (0, u "compress"), (0, u "([CI[BII)I"), (3, u "([CII)[B"), (138, u "coderFromArrayLen"), (0, u "([BI)B"), (106, .class_ 371), (1, u "java/lang/StringUTF16$LinesSpliterator"), (58, u "MAX_LENGTH"), (196, .class_ 628), (0, u "java/lang/StringUTF16$CodePointsSpliterator"), (0, .class_ 630), (0, u "java/lang/StringUTF16$CharsSpliterator")] 4

def k13m0 : Method := { name := "<init>", desc := "()V", sig := { parameters := [], returnType := none }, accessFlags := 0, code := none }
def k13c1 : Code := { maxStack := 2, maxLocals := 2, code := jdk_52_method_15_code, exceptionTable := #[], attributes := #[] }
def k13m1 : Method := { name := "coderFromArrayLen", desc := "([BI)B", sig := { parameters := [(.array .byte), .int], returnType := some .byte }, accessFlags := 8, code := some k13c1 }
def k13c2 : Code := { maxStack := 5, maxLocals := 6, code := jdk_52_method_16_code, exceptionTable := #[], attributes := #[] }
def k13m2 : Method := { name := "compress", desc := "([CII)[B", sig := { parameters := [(.array .char), .int, .int], returnType := some (.array .byte) }, accessFlags := 9, code := some k13c2 }
def k13c3 : Code := { maxStack := 3, maxLocals := 7, code := jdk_52_method_21_code, exceptionTable := #[], attributes := #[] }
def k13m3 : Method := { name := "compress", desc := "([CI[BII)I", sig := { parameters := [(.array .char), .int, (.array .byte), .int, .int], returnType := some .int }, accessFlags := 9, code := some k13c3 }
/-- java/lang/StringUTF16 -/
def k13 : Class := { plain "java/lang/StringUTF16" (some 0) with
  accessFlags := 48
  interfaces := #[]
  cf := some (fileOf pool13 12 #[.nestMembers #[627, 629, 369]] #[{ accessFlags := 0, nameIndex := 9, descriptorIndex := 10, attributes := #[] }, { accessFlags := 8, nameIndex := 261, descriptorIndex := 262, attributes := #[] }, { accessFlags := 9, nameIndex := 117, descriptorIndex := 122, attributes := #[] }, { accessFlags := 9, nameIndex := 117, descriptorIndex := 118, attributes := #[] }] 48 6 #[] #[{ accessFlags := 26, nameIndex := 61, descriptorIndex := 62, attributes := #[] }, { accessFlags := 26, nameIndex := 65, descriptorIndex := 62, attributes := #[] }, { accessFlags := 24, nameIndex := 430, descriptorIndex := 62, attributes := #[] }, { accessFlags := 4120, nameIndex := 46, descriptorIndex := 47, attributes := #[] }])
  fields := #[{ name := "HI_BYTE_SHIFT", type := .int, accessFlags := 26, slot := 0, constantValue := 0 }, { name := "LO_BYTE_SHIFT", type := .int, accessFlags := 26, slot := 1, constantValue := 0 }, { name := "MAX_LENGTH", type := .int, accessFlags := 24, slot := 2, constantValue := 0 }, { name := "$assertionsDisabled", type := .boolean, accessFlags := 4120, slot := 3, constantValue := 0 }]
  methods := #[k13m0, k13m1, k13m2, k13m3]
  instanceTypes := #[]
  staticTypes := #[.int, .int, .int, .boolean]
  resolved := Array.replicate 635 none
  statics := none }

def pool14 : Array CpInfo := pool [(2, .class_ 4), (1, u "java/lang/Object"), (0, u "<init>"), (0, u "()V"), (17, .class_ 26), (1, u "jdk/internal/util/Preconditions"), (20, u "checkFromToIndex"), (7, .class_ 56), (0, u "jdk/internal/util/Preconditions$4"), (57, .class_ 115), (0, u "jdk/internal/util/Preconditions$1"), (7, u "SIOOBE_FORMATTER"), (0, u "Ljava/util/function/BiFunction;"), (0, .class_ 126), (0, u "jdk/internal/util/Preconditions$2"), (3, u "AIOOBE_FORMATTER"), (0, .class_ 132), (0, u "jdk/internal/util/Preconditions$3"), (3, u "IOOBE_FORMATTER"), (46, u "(IIILjava/util/function/BiFunction;)I")] 10

def k14m0 : Method := { name := "<init>", desc := "()V", sig := { parameters := [], returnType := none }, accessFlags := 1, code := none }
def k14c1 : Code := { maxStack := 4, maxLocals := 4, code := jdk_41_method_12_code, exceptionTable := #[], attributes := #[] }
def k14m1 : Method := { name := "checkFromToIndex", desc := "(IIILjava/util/function/BiFunction;)I", sig := { parameters := [.int, .int, .int, (.object "java/util/function/BiFunction")], returnType := some .int }, accessFlags := 9, code := some k14c1 }
/-- jdk/internal/util/Preconditions -/
def k14 : Class := { plain "jdk/internal/util/Preconditions" (some 0) with
  accessFlags := 33
  interfaces := #[]
  cf := some (fileOf pool14 24 #[.nestMembers #[55, 131, 125, 114]] #[{ accessFlags := 1, nameIndex := 5, descriptorIndex := 6, attributes := #[] }, { accessFlags := 9, nameIndex := 47, descriptorIndex := 183, attributes := #[] }] 33 2 #[] #[{ accessFlags := 25, nameIndex := 123, descriptorIndex := 124, attributes := #[] }, { accessFlags := 25, nameIndex := 130, descriptorIndex := 124, attributes := #[] }, { accessFlags := 25, nameIndex := 136, descriptorIndex := 124, attributes := #[] }])
  fields := #[{ name := "SIOOBE_FORMATTER", type := (.object "java/util/function/BiFunction"), accessFlags := 25, slot := 0, constantValue := 0 }, { name := "AIOOBE_FORMATTER", type := (.object "java/util/function/BiFunction"), accessFlags := 25, slot := 1, constantValue := 0 }, { name := "IOOBE_FORMATTER", type := (.object "java/util/function/BiFunction"), accessFlags := 25, slot := 2, constantValue := 0 }]
  methods := #[k14m0, k14m1]
  instanceTypes := #[]
  staticTypes := #[(.object "java/util/function/BiFunction"), (.object "java/util/function/BiFunction"), (.object "java/util/function/BiFunction")]
  resolved := Array.replicate 194 none
  statics := some 2 }

def pool15 : Array CpInfo := pool [(2, .class_ 4), (1, u "java/lang/Object"), (0, u "<init>"), (0, u "()V"), (35, .class_ 44), (1, u "java/util/Objects"), (0, u "requireNonNull"), (0, u "(Ljava/lang/Object;)Ljava/lang/Object;")] 137

def k15m0 : Method := { name := "<init>", desc := "()V", sig := { parameters := [], returnType := none }, accessFlags := 2, code := none }
def k15c1 : Code := { maxStack := 2, maxLocals := 1, code := jdk_31_method_10_code, exceptionTable := #[], attributes := #[] }
def k15m1 : Method := { name := "requireNonNull", desc := "(Ljava/lang/Object;)Ljava/lang/Object;", sig := { parameters := [(.object "java/lang/Object")], returnType := some (.object "java/lang/Object") }, accessFlags := 9, code := some k15c1 }
/-- java/util/Objects -/
def k15 : Class := { plain "java/util/Objects" (some 0) with
  accessFlags := 49
  interfaces := #[]
  cf := some (fileOf pool15 42 #[] #[{ accessFlags := 2, nameIndex := 5, descriptorIndex := 6, attributes := #[] }, { accessFlags := 9, nameIndex := 45, descriptorIndex := 46, attributes := #[] }] 49 2 #[] #[])
  fields := #[]
  methods := #[k15m0, k15m1]
  instanceTypes := #[]
  staticTypes := #[]
  resolved := Array.replicate 184 none
  statics := none }

def pool16 : Array CpInfo := pool [(2, .class_ 4), (1, u "java/lang/Object"), (0, u "<init>"), (0, u "()V"), (7, .class_ 16), (1, u "java/util/Arrays"), (57, .class_ 76), (1, u "java/util/Arrays$NaturalOrder"), (36, .class_ 115), (1, u "java/util/Arrays$LegacyMergeSort"), (1, u "Z"), (21, u "copyOfRange"), (10, .methodref 151 152), (0, .class_ 153), (0, .nameAndType 154 155), (0, u "java/lang/System"), (0, u "arraycopy"), (0, u "(Ljava/lang/Object;ILjava/lang/Object;II)V"), (148, .methodref 305 306), (0, .class_ 307), (0, .nameAndType 308 309), (0, u "java/lang/Math"), (0, u "min"), (0, u "(II)I"), (29, .methodref 14 340), (0, .nameAndType 341 342), (0, u "copyOfRangeByte"), (0, u "([BII)[B"), (0, .methodref 14 344), (0, .nameAndType 345 346), (0, u "checkLength"), (0, u "(II)V"), (28, .class_ 376), (0, u "java/util/Arrays$ArrayList"), (68, u "$assertionsDisabled"), (269, u "MIN_ARRAY_SORT_GRAN"), (0, u "I"), (2, u "INSERTIONSORT_THRESHOLD"), (255, .class_ 976), (0, u "java/util/Arrays$ArrayItr")] 52

def k16m0 : Method := { name := "<init>", desc := "()V", sig := { parameters := [], returnType := none }, accessFlags := 2, code := none }
def k16c1 : Code := { maxStack := 4, maxLocals := 2, code := jdk_65_method_131_code, exceptionTable := #[], attributes := #[] }
def k16m1 : Method := { name := "checkLength", desc := "(II)V", sig := { parameters := [.int, .int], returnType := none }, accessFlags := 10, code := some k16c1 }
def k16c2 : Code := { maxStack := 3, maxLocals := 3, code := jdk_65_method_132_code, exceptionTable := #[], attributes := #[] }
def k16m2 : Method := { name := "copyOfRange", desc := "([BII)[B", sig := { parameters := [(.array .byte), .int, .int], returnType := some (.array .byte) }, accessFlags := 9, code := some k16c2 }
def k16c3 : Code := { maxStack := 6, maxLocals := 5, code := jdk_65_method_133_code, exceptionTable := #[], attributes := #[] }
def k16m3 : Method := { name := "copyOfRangeByte", desc := "([BII)[B", sig := { parameters := [(.array .byte), .int, .int], returnType := some (.array .byte) }, accessFlags := 10, code := some k16c3 }
/-- java/util/Arrays -/
def k16 : Class := { plain "java/util/Arrays" (some 0) with
  accessFlags := 49
  interfaces := #[]
  cf := some (fileOf pool16 14 #[.nestMembers #[975, 375, 113, 74]] #[{ accessFlags := 2, nameIndex := 5, descriptorIndex := 6, attributes := #[] }, { accessFlags := 10, nameIndex := 345, descriptorIndex := 346, attributes := #[] }, { accessFlags := 9, nameIndex := 139, descriptorIndex := 342, attributes := #[] }, { accessFlags := 10, nameIndex := 341, descriptorIndex := 342, attributes := #[] }] 49 2 #[] #[{ accessFlags := 26, nameIndex := 715, descriptorIndex := 716, attributes := #[] }, { accessFlags := 26, nameIndex := 719, descriptorIndex := 716, attributes := #[] }, { accessFlags := 4120, nameIndex := 445, descriptorIndex := 117, attributes := #[] }])
  fields := #[{ name := "MIN_ARRAY_SORT_GRAN", type := .int, accessFlags := 26, slot := 0, constantValue := 0 }, { name := "INSERTIONSORT_THRESHOLD", type := .int, accessFlags := 26, slot := 1, constantValue := 0 }, { name := "$assertionsDisabled", type := .boolean, accessFlags := 4120, slot := 2, constantValue := 0 }]
  methods := #[k16m0, k16m1, k16m2, k16m3]
  instanceTypes := #[]
  staticTypes := #[.int, .int, .boolean]
  resolved := Array.replicate 1029 none
  statics := none }

def pool17 : Array CpInfo := pool [(2, .class_ 4), (1, u "java/lang/Object"), (0, u "<init>"), (0, u "()V"), (1, .class_ 10), (1, u "java/lang/System"), (0, u "allowSecurityManager"), (0, u "I"), (16, u "cons"), (0, u "Ljava/io/Console;"), (77, .class_ 110), (1, u "java/lang/System$CallersHolder"), (43, u "initialErrStream"), (0, u "Ljava/io/PrintStream;"), (19, u "security"), (0, u "Ljava/lang/SecurityManager;"), (31, .class_ 209), (0, u "java/lang/System$1"), (7, u "props"), (0, u "Ljava/util/Properties;"), (2, u "lineSeparator"), (0, u "Ljava/lang/String;"), (96, .class_ 321), (1, u "java/lang/System$LoggerFinder"), (5, .class_ 328), (0, u "java/lang/System$Logger"), (67, u "err"), (2, u "out"), (91, u "notSupportedJnuEncoding"), (15, u "in"), (17, u "initialIn"), (0, u "Ljava/io/InputStream;"), (35, u "bootLayer"), (0, u "Ljava/lang/ModuleLayer;"), (99, .class_ 664), (0, u "java/lang/System$2"), (9, u "NEVER"), (2, u "MAYBE"), (49, u "arraycopy"), (0, u "(Ljava/lang/Object;ILjava/lang/Object;II)V"), (72, .class_ 802), (0, u "java/lang/System$Logger$Level")] 31

def k17m0 : Method := { name := "<init>", desc := "()V", sig := { parameters := [], returnType := none }, accessFlags := 2, code := none }
def k17m1 : Method := { name := "arraycopy", desc := "(Ljava/lang/Object;ILjava/lang/Object;II)V", sig := { parameters := [(.object "java/lang/Object"), .int, (.object "java/lang/Object"), .int, .int], returnType := none }, accessFlags := 265, code := none }
/-- java/lang/System -/
def k17 : Class := { plain "java/lang/System" (some 0) with
  accessFlags := 49
  interfaces := #[]
  cf := some (fileOf pool17 8 #[.nestMembers #[319, 327, 801, 108, 663, 208]] #[{ accessFlags := 2, nameIndex := 5, descriptorIndex := 6, attributes := #[] }, { accessFlags := 265, nameIndex := 727, descriptorIndex := 728, attributes := #[] }] 49 2 #[] #[{ accessFlags := 25, nameIndex := 507, descriptorIndex := 526, attributes := #[] }, { accessFlags := 25, nameIndex := 399, descriptorIndex := 155, attributes := #[] }, { accessFlags := 25, nameIndex := 396, descriptorIndex := 155, attributes := #[] }, { accessFlags := 10, nameIndex := 525, descriptorIndex := 526, attributes := #[] }, { accessFlags := 26, nameIndex := 674, descriptorIndex := 12, attributes := #[] }, { accessFlags := 26, nameIndex := 677, descriptorIndex := 12, attributes := #[] }, { accessFlags := 10, nameIndex := 11, descriptorIndex := 12, attributes := #[] }, { accessFlags := 74, nameIndex := 175, descriptorIndex := 176, attributes := #[] }, { accessFlags := 10, nameIndex := 491, descriptorIndex := 222, attributes := #[] }, { accessFlags := 74, nameIndex := 29, descriptorIndex := 30, attributes := #[] }, { accessFlags := 74, nameIndex := 154, descriptorIndex := 155, attributes := #[] }, { accessFlags := 10, nameIndex := 217, descriptorIndex := 218, attributes := #[] }, { accessFlags := 10, nameIndex := 221, descriptorIndex := 222, attributes := #[] }, { accessFlags := 8, nameIndex := 562, descriptorIndex := 563, attributes := #[] }])
  fields := #[{ name := "in", type := (.object "java/io/InputStream"), accessFlags := 25, slot := 0, constantValue := 0 }, { name := "out", type := (.object "java/io/PrintStream"), accessFlags := 25, slot := 1, constantValue := 0 }, { name := "err", type := (.object "java/io/PrintStream"), accessFlags := 25, slot := 2, constantValue := 0 }, { name := "initialIn", type := (.object "java/io/InputStream"), accessFlags := 10, slot := 3, constantValue := 0 }, { name := "NEVER", type := .int, accessFlags := 26, slot := 4, constantValue := 0 }, { name := "MAYBE", type := .int, accessFlags := 26, slot := 5, constantValue := 0 }, { name := "allowSecurityManager", type := .int, accessFlags := 10, slot := 6, constantValue := 0 }, { name := "security", type := (.object "java/lang/SecurityManager"), accessFlags := 74, slot := 7, constantValue := 0 }, { name := "notSupportedJnuEncoding", type := (.object "java/lang/String"), accessFlags := 10, slot := 8, constantValue := 0 }, { name := "cons", type := (.object "java/io/Console"), accessFlags := 74, slot := 9, constantValue := 0 }, { name := "initialErrStream", type := (.object "java/io/PrintStream"), accessFlags := 74, slot := 10, constantValue := 0 }, { name := "props", type := (.object "java/util/Properties"), accessFlags := 10, slot := 11, constantValue := 0 }, { name := "lineSeparator", type := (.object "java/lang/String"), accessFlags := 10, slot := 12, constantValue := 0 }, { name := "bootLayer", type := (.object "java/lang/ModuleLayer"), accessFlags := 8, slot := 13, constantValue := 0 }]
  methods := #[k17m0, k17m1]
  instanceTypes := #[]
  staticTypes := #[(.object "java/io/InputStream"), (.object "java/io/PrintStream"), (.object "java/io/PrintStream"), (.object "java/io/InputStream"), .int, .int, .int, (.object "java/lang/SecurityManager"), (.object "java/lang/String"), (.object "java/io/Console"), (.object "java/io/PrintStream"), (.object "java/util/Properties"), (.object "java/lang/String"), (.object "java/lang/ModuleLayer")]
  resolved := Array.replicate 834 none
  statics := none }

def pool18 : Array CpInfo := pool [(9, u "<init>"), (6, .class_ 18), (1, u "java/lang/Object"), (0, u "()V"), (1, .class_ 23), (1, u "jdk/internal/util/ArraysSupport"), (0, u "LOG2_ARRAY_LONG_INDEX_SCALE"), (0, u "I"), (2, u "U"), (0, u "Ljdk/internal/misc/Unsafe;"), (8, u "BIG_ENDIAN"), (0, u "Z"), (8, u "LOG2_BYTE_BIT_SIZE"), (4, u "LOG2_ARRAY_INT_INDEX_SCALE"), (54, u "JLA"), (0, u "Ljdk/internal/access/JavaLangAccess;"), (11, u "LOG2_ARRAY_BOOLEAN_INDEX_SCALE"), (9, u "LOG2_ARRAY_BYTE_INDEX_SCALE"), (5, u "LOG2_ARRAY_CHAR_INDEX_SCALE"), (5, u "LOG2_ARRAY_SHORT_INDEX_SCALE"), (18, u "LOG2_ARRAY_FLOAT_INDEX_SCALE"), (24, u "LOG2_ARRAY_DOUBLE_INDEX_SCALE"), (89, u "T_BOOLEAN"), (2, u "T_CHAR"), (1, u "T_FLOAT"), (1, u "T_DOUBLE"), (1, u "T_BYTE"), (1, u "T_SHORT"), (1, u "T_INT"), (1, u "T_LONG"), (1, u "SOFT_MAX_ARRAY_LENGTH")] 83

def k18m0 : Method := { name := "<init>", desc := "()V", sig := { parameters := [], returnType := none }, accessFlags := 2, code := none }
/-- jdk/internal/util/ArraysSupport -/
def k18 : Class := { plain "jdk/internal/util/ArraysSupport" (some 0) with
  accessFlags := 33
  interfaces := #[]
  cf := some (fileOf pool18 21 #[] #[{ accessFlags := 2, nameIndex := 9, descriptorIndex := 19, attributes := #[] }] 33 16 #[] #[{ accessFlags := 24, nameIndex := 28, descriptorIndex := 29, attributes := #[] }, { accessFlags := 26, nameIndex := 38, descriptorIndex := 39, attributes := #[] }, { accessFlags := 25, nameIndex := 121, descriptorIndex := 25, attributes := #[] }, { accessFlags := 25, nameIndex := 131, descriptorIndex := 25, attributes := #[] }, { accessFlags := 25, nameIndex := 137, descriptorIndex := 25, attributes := #[] }, { accessFlags := 25, nameIndex := 143, descriptorIndex := 25, attributes := #[] }, { accessFlags := 25, nameIndex := 53, descriptorIndex := 25, attributes := #[] }, { accessFlags := 25, nameIndex := 24, descriptorIndex := 25, attributes := #[] }, { accessFlags := 25, nameIndex := 162, descriptorIndex := 25, attributes := #[] }, { accessFlags := 25, nameIndex := 187, descriptorIndex := 25, attributes := #[] }, { accessFlags := 26, nameIndex := 48, descriptorIndex := 25, attributes := #[] }, { accessFlags := 25, nameIndex := 277, descriptorIndex := 25, attributes := #[] }, { accessFlags := 25, nameIndex := 280, descriptorIndex := 25, attributes := #[] }, { accessFlags := 25, nameIndex := 282, descriptorIndex := 25, attributes := #[] }, { accessFlags := 25, nameIndex := 284, descriptorIndex := 25, attributes := #[] }, { accessFlags := 25, nameIndex := 286, descriptorIndex := 25, attributes := #[] }, { accessFlags := 25, nameIndex := 288, descriptorIndex := 25, attributes := #[] }, { accessFlags := 25, nameIndex := 290, descriptorIndex := 25, attributes := #[] }, { accessFlags := 25, nameIndex := 292, descriptorIndex := 25, attributes := #[] }, { accessFlags := 26, nameIndex := 108, descriptorIndex := 109, attributes := #[] }, { accessFlags := 25, nameIndex := 294, descriptorIndex := 25, attributes := #[] }])
  fields := #[{ name := "U", type := (.object "jdk/internal/misc/Unsafe"), accessFlags := 24, slot := 0, constantValue := 0 }, { name := "BIG_ENDIAN", type := .boolean, accessFlags := 26, slot := 1, constantValue := 0 }, { name := "LOG2_ARRAY_BOOLEAN_INDEX_SCALE", type := .int, accessFlags := 25, slot := 2, constantValue := 0 }, { name := "LOG2_ARRAY_BYTE_INDEX_SCALE", type := .int, accessFlags := 25, slot := 3, constantValue := 0 }, { name := "LOG2_ARRAY_CHAR_INDEX_SCALE", type := .int, accessFlags := 25, slot := 4, constantValue := 0 }, { name := "LOG2_ARRAY_SHORT_INDEX_SCALE", type := .int, accessFlags := 25, slot := 5, constantValue := 0 }, { name := "LOG2_ARRAY_INT_INDEX_SCALE", type := .int, accessFlags := 25, slot := 6, constantValue := 0 }, { name := "LOG2_ARRAY_LONG_INDEX_SCALE", type := .int, accessFlags := 25, slot := 7, constantValue := 0 }, { name := "LOG2_ARRAY_FLOAT_INDEX_SCALE", type := .int, accessFlags := 25, slot := 8, constantValue := 0 }, { name := "LOG2_ARRAY_DOUBLE_INDEX_SCALE", type := .int, accessFlags := 25, slot := 9, constantValue := 0 }, { name := "LOG2_BYTE_BIT_SIZE", type := .int, accessFlags := 26, slot := 10, constantValue := 0 }, { name := "T_BOOLEAN", type := .int, accessFlags := 25, slot := 11, constantValue := 0 }, { name := "T_CHAR", type := .int, accessFlags := 25, slot := 12, constantValue := 0 }, { name := "T_FLOAT", type := .int, accessFlags := 25, slot := 13, constantValue := 0 }, { name := "T_DOUBLE", type := .int, accessFlags := 25, slot := 14, constantValue := 0 }, { name := "T_BYTE", type := .int, accessFlags := 25, slot := 15, constantValue := 0 }, { name := "T_SHORT", type := .int, accessFlags := 25, slot := 16, constantValue := 0 }, { name := "T_INT", type := .int, accessFlags := 25, slot := 17, constantValue := 0 }, { name := "T_LONG", type := .int, accessFlags := 25, slot := 18, constantValue := 0 }, { name := "JLA", type := (.object "jdk/internal/access/JavaLangAccess"), accessFlags := 26, slot := 19, constantValue := 0 }, { name := "SOFT_MAX_ARRAY_LENGTH", type := .int, accessFlags := 25, slot := 20, constantValue := 0 }]
  methods := #[k18m0]
  instanceTypes := #[]
  staticTypes := #[(.object "jdk/internal/misc/Unsafe"), .boolean, .int, .int, .int, .int, .int, .int, .int, .int, .int, .int, .int, .int, .int, .int, .int, .int, .int, (.object "jdk/internal/access/JavaLangAccess"), .int]
  resolved := Array.replicate 378 none
  statics := none }

def pool19 : Array CpInfo := pool [(1, u "java/lang/Cloneable"), (0, .class_ 1), (0, u "java/lang/Object"), (0, .class_ 3)] 3

/-- java/lang/Cloneable -/
def k19 : Class := { plain "java/lang/Cloneable" (some 0) with
  accessFlags := 1537
  interfaces := #[]
  cf := some (fileOf pool19 2 #[] #[] 1537 4 #[] #[])
  fields := #[]
  methods := #[]
  instanceTypes := #[]
  staticTypes := #[]
  resolved := Array.replicate 8 none
  statics := none }

/-- the primitive byte -/
def k20 : Class := { plain "byte" none with kind := .primitive 'B', accessFlags := 0x411 }
/-- [B -/
def k21 : Class := { plain "[B" (some 0) with kind := .array 20 .byte, interfaces := #[19, 2], accessFlags := 1041 }

/-- the primitive char -/
def k22 : Class := { plain "char" none with kind := .primitive 'C', accessFlags := 0x411 }
/-- [C -/
def k23 : Class := { plain "[C" (some 0) with kind := .array 22 .char, interfaces := #[19, 2], accessFlags := 1041 }

/-- the primitive int -/
def k24 : Class := { plain "int" none with kind := .primitive 'I', accessFlags := 0x411 }
/-- [I -/
def k25 : Class := { plain "[I" (some 0) with kind := .array 24 .int, interfaces := #[19, 2], accessFlags := 1041 }

def heap : Heap := #[{ cls := 7, slots := #[.long 0, .int 1, .null, .int 0, .null, .int 0, .int 0], vm := .statics 7 },
  { cls := 12, slots := #[.ref 3], vm := .statics 12 },
  { cls := 14, slots := #[.null, .null, .null], vm := .statics 14 },
  { cls := 12, slots := #[.null], vm := .none }]
def classes : Array Class := #[k0, k1, k2, k3, k4, k5, k6, k7, k8, k9, k10, k11, k12, k13, k14, k15, k16, k17, k18, k19, k20, k21, k22, k23, k24, k25]
def interned : List (Array UInt16 × Addr) := []
def slotsUsed : Nat := 12
def theMethod : MethodId := ⟨1, 4⟩
def args0 : Array Value := #[.int 3, .int 65, .int 64, .int 67, .int 68]
def aboutOver (below : List Frame) : State where
  vm := { classes := classes, interned := interned.toArray }
  heap := heap
  slotsUsed := slotsUsed
  threads := #[{ frames := .invoking theMethod args0 :: below }]
def below0 : List Frame := [.native { method := ⟨0, 0⟩, args := #[] }]
def about1 : State := aboutOver below0
def p0 : Program := .bare "" "" ""
def e0 : Env := launch0.env 0 0 0
theorem w_frames : about1.frames = Frame.invoking theMethod args0 :: below0 := rfl
set_option maxRecDepth 65536 in
theorem w_args : argsFit about1.vm theMethod args0 = true := by decide +kernel
set_option maxRecDepth 65536 in
theorem w_heap : heapFits about1 = true := by decide +kernel
set_option maxRecDepth 65536 in
theorem w_runnable : about1.curStatus? = some .runnable := by decide +kernel
set_option maxRecDepth 65536 in
theorem w_alone : about1.alone = true := by decide +kernel
set_option maxRecDepth 65536 in
theorem w_named : about1.methodNamed? x = some theMethod := by decide +kernel
set_option maxRecDepth 65536 in
theorem w_hears : about1.hears theMethod below0 = true := by decide +kernel
set_option maxRecDepth 65536 in
theorem w_ripe : about1.ripe theMethod args0 below0 = true := by decide +kernel
theorem w_running : about1.status = .running := rfl
set_option maxRecDepth 65536 in
theorem w_room : about1.hasRoom e0.platform room_1 = true :=
  launch0.hasRoom_least _ room_1 (by decide +kernel) (by decide +kernel) (by decide +kernel) (by decide +kernel) (by decide +kernel) (by decide +kernel)
theorem allAtoms_all (ts : List Jvm.Cond) (a : Array Jvm.Value) (st : Jvm.State) : (allAtoms ts).before a st = ts.all (fun c => c.before a st) := by
  induction ts with
  | nil => rfl
  | cons c t ih =>
    show (Jvm.Cond.and c (allAtoms t)).before a st = _
    rw [Jvm.Cond.before_and, ih, List.all_cons]
def words1 : List Jvm.Cond := Jvm.Cond.code x code maxLocals ret :: tables_1
/-- a 'code' word, met by the world's own term for the bytes: nothing is compared byte by byte -/
theorem code_word {y : MethodName} {bytes : ByteArray} {mx : Nat} {rt : Option FieldType} {a : Array Value} {s : State} {m : MethodId} {meth : Method} {c : Code} (h1 : s.methodNamed? y = some m) (h2 : s.vm.method? m = some meth) (h3 : meth.code = some c) (h4 : c.code = bytes)
    (h5 : (c.maxLocals == mx && c.exceptionTable.isEmpty && decide (c.maxStack ≤ mostOperands) && decide (meth.sig.returnType = rt) && !meth.locks && decide (parseMethodDescriptor y.desc = some meth.sig)) = true) : (Jvm.Cond.code y bytes mx rt).before a s = true := by
  simp only [Bool.and_eq_true, beq_iff_eq, Bool.not_eq_true', decide_eq_true_eq] at h5
  obtain ⟨⟨⟨⟨⟨g1, g2⟩, g3⟩, g4⟩, g5⟩, g6⟩ := h5
  simp [Cond.before, Cond.holds, Cond.value, h1, h2, h3, h4, g1, g2, g3, g4, g5, g6]
def isCode : Jvm.Cond → Bool
  | .code _ _ _ _ => true
  | _ => false
theorem all_split {L : List Jvm.Cond} {P : Jvm.Cond → Bool} (h1 : L.all (fun c => isCode c || P c) = true) (h2 : ∀ c ∈ L.filter isCode, P c = true) : L.all P = true := by
  refine List.all_eq_true.mpr fun c hc => ?_
  have h := List.all_eq_true.mp h1 c hc
  rcases Bool.eq_false_or_eq_true (isCode c) with hi | hi
  · exact h2 c (List.mem_filter.mpr ⟨hc, hi⟩)
  · simpa [hi] using h
set_option maxRecDepth 65536 in
theorem w_c0 : (Jvm.Cond.code x code maxLocals ret).before args0 about1 = true := code_word (m := ⟨1, 4⟩) (meth := k1m4) (c := k1c4) (by decide +kernel) rfl rfl rfl (by decide +kernel)
set_option maxRecDepth 65536 in
theorem w_c1 : (Jvm.Cond.code ({ cls := "se/bryggan/saml/EidAttributeScopePinLaw", name := "ch", desc := "(I)C" } : Jvm.MethodName) method_2_code (1 : Nat) (Option.some Jvm.ClassFile.FieldType.char)).before args0 about1 = true := code_word (m := ⟨1, 1⟩) (meth := k1m1) (c := k1c1) (by decide +kernel) rfl rfl rfl (by decide +kernel)
set_option maxRecDepth 65536 in
theorem w_c2 : (Jvm.Cond.code ({ cls := "se/bryggan/saml/EidAttributeScopePinLaw", name := "str", desc := "(CCCCII)Ljava/lang/String;" } : Jvm.MethodName) method_4_code (8 : Nat) (Option.some (Jvm.ClassFile.FieldType.object "java/lang/String"))).before args0 about1 = true := code_word (m := ⟨1, 3⟩) (meth := k1m3) (c := k1c3) (by decide +kernel) rfl rfl rfl (by decide +kernel)
set_option maxRecDepth 65536 in
theorem w_c3 : (Jvm.Cond.code ({ cls := "java/lang/String", name := "<init>", desc := "([C)V" } : Jvm.MethodName) jdk_42_method_3_code (2 : Nat) (Option.none : Option Jvm.ClassFile.FieldType)).before args0 about1 = true := code_word (m := ⟨7, 1⟩) (meth := k7m1) (c := k7c1) (by decide +kernel) rfl rfl rfl (by decide +kernel)
set_option maxRecDepth 65536 in
theorem w_c4 : (Jvm.Cond.code ({ cls := "java/lang/String", name := "<init>", desc := "([CIILjava/lang/Void;)V" } : Jvm.MethodName) jdk_42_method_149_code (6 : Nat) (Option.none : Option Jvm.ClassFile.FieldType)).before args0 about1 = true := code_word (m := ⟨7, 8⟩) (meth := k7m8) (c := k7c8) (by decide +kernel) rfl rfl rfl (by decide +kernel)
set_option maxRecDepth 65536 in
theorem w_c5 : (Jvm.Cond.code ({ cls := "java/lang/Object", name := "<init>", desc := "()V" } : Jvm.MethodName) object_method_1_code (1 : Nat) (Option.none : Option Jvm.ClassFile.FieldType)).before args0 about1 = true := code_word (m := ⟨0, 0⟩) (meth := k0m0) (c := k0c0) (by decide +kernel) rfl rfl rfl (by decide +kernel)
set_option maxRecDepth 65536 in
theorem w_c6 : (Jvm.Cond.code ({ cls := "se/bryggan/saml/EidAttribute", name := "scope", desc := "(Ljava/lang/String;)Ljava/util/Optional;" } : Jvm.MethodName) prog_20_method_8_code (2 : Nat) (Option.some (Jvm.ClassFile.FieldType.object "java/util/Optional"))).before args0 about1 = true := code_word (m := ⟨9, 0⟩) (meth := k9m0) (c := k9c0) (by decide +kernel) rfl rfl rfl (by decide +kernel)
set_option maxRecDepth 65536 in
theorem w_c7 : (Jvm.Cond.code ({ cls := "java/lang/String", name := "lastIndexOf", desc := "(I)I" } : Jvm.MethodName) jdk_42_method_82_code (2 : Nat) (Option.some Jvm.ClassFile.FieldType.int)).before args0 about1 = true := code_word (m := ⟨7, 4⟩) (meth := k7m4) (c := k7c4) (by decide +kernel) rfl rfl rfl (by decide +kernel)
set_option maxRecDepth 65536 in
theorem w_c8 : (Jvm.Cond.code ({ cls := "java/lang/String", name := "length", desc := "()I" } : Jvm.MethodName) jdk_42_method_54_code (1 : Nat) (Option.some Jvm.ClassFile.FieldType.int)).before args0 about1 = true := code_word (m := ⟨7, 2⟩) (meth := k7m2) (c := k7c2) (by decide +kernel) rfl rfl rfl (by decide +kernel)
set_option maxRecDepth 65536 in
theorem w_c9 : (Jvm.Cond.code ({ cls := "java/lang/String", name := "coder", desc := "()B" } : Jvm.MethodName) jdk_42_method_152_code (1 : Nat) (Option.some Jvm.ClassFile.FieldType.byte)).before args0 about1 = true := code_word (m := ⟨7, 10⟩) (meth := k7m10) (c := k7c10) (by decide +kernel) rfl rfl rfl (by decide +kernel)
set_option maxRecDepth 65536 in
theorem w_c10 : (Jvm.Cond.code ({ cls := "java/lang/String", name := "lastIndexOf", desc := "(II)I" } : Jvm.MethodName) jdk_42_method_83_code (3 : Nat) (Option.some Jvm.ClassFile.FieldType.int)).before args0 about1 = true := code_word (m := ⟨7, 5⟩) (meth := k7m5) (c := k7c5) (by decide +kernel) rfl rfl rfl (by decide +kernel)
set_option maxRecDepth 65536 in
theorem w_c11 : (Jvm.Cond.code ({ cls := "java/lang/String", name := "isLatin1", desc := "()Z" } : Jvm.MethodName) jdk_42_method_154_code (1 : Nat) (Option.some Jvm.ClassFile.FieldType.boolean)).before args0 about1 = true := code_word (m := ⟨7, 11⟩) (meth := k7m11) (c := k7c11) (by decide +kernel) rfl rfl rfl (by decide +kernel)
set_option maxRecDepth 65536 in
theorem w_c12 : (Jvm.Cond.code ({ cls := "java/lang/StringLatin1", name := "lastIndexOf", desc := "([BII)I" } : Jvm.MethodName) jdk_43_method_27_code (4 : Nat) (Option.some Jvm.ClassFile.FieldType.int)).before args0 about1 = true := code_word (m := ⟨10, 3⟩) (meth := k10m3) (c := k10c3) (by decide +kernel) rfl rfl rfl (by decide +kernel)
set_option maxRecDepth 65536 in
theorem w_c13 : (Jvm.Cond.code ({ cls := "java/lang/StringLatin1", name := "canEncode", desc := "(I)Z" } : Jvm.MethodName) jdk_43_method_4_code (1 : Nat) (Option.some Jvm.ClassFile.FieldType.boolean)).before args0 about1 = true := code_word (m := ⟨10, 1⟩) (meth := k10m1) (c := k10c1) (by decide +kernel) rfl rfl rfl (by decide +kernel)
set_option maxRecDepth 65536 in
theorem w_c14 : (Jvm.Cond.code ({ cls := "java/lang/Math", name := "min", desc := "(II)I" } : Jvm.MethodName) jdk_29_method_69_code (2 : Nat) (Option.some Jvm.ClassFile.FieldType.int)).before args0 about1 = true := code_word (m := ⟨11, 1⟩) (meth := k11m1) (c := k11c1) (by decide +kernel) rfl rfl rfl (by decide +kernel)
set_option maxRecDepth 65536 in
theorem w_c15 : (Jvm.Cond.code ({ cls := "java/util/Optional", name := "empty", desc := "()Ljava/util/Optional;" } : Jvm.MethodName) jdk_32_method_1_code (1 : Nat) (Option.some (Jvm.ClassFile.FieldType.object "java/util/Optional"))).before args0 about1 = true := code_word (m := ⟨12, 0⟩) (meth := k12m0) (c := k12c0) (by decide +kernel) rfl rfl rfl (by decide +kernel)
set_option maxRecDepth 65536 in
theorem w_c16 : (Jvm.Cond.code ({ cls := "java/util/Optional", name := "isPresent", desc := "()Z" } : Jvm.MethodName) jdk_32_method_6_code (1 : Nat) (Option.some Jvm.ClassFile.FieldType.boolean)).before args0 about1 = true := code_word (m := ⟨12, 4⟩) (meth := k12m4) (c := k12c4) (by decide +kernel) rfl rfl rfl (by decide +kernel)
set_option maxRecDepth 65536 in
theorem w_c17 : (Jvm.Cond.code ({ cls := "se/bryggan/saml/EidAttributeScopePinLaw", name := "pick", desc := "(CCCCI)C" } : Jvm.MethodName) method_3_code (5 : Nat) (Option.some Jvm.ClassFile.FieldType.char)).before args0 about1 = true := code_word (m := ⟨1, 2⟩) (meth := k1m2) (c := k1c2) (by decide +kernel) rfl rfl rfl (by decide +kernel)
set_option maxRecDepth 65536 in
theorem w_c18 : (Jvm.Cond.code ({ cls := "java/lang/StringUTF16", name := "compress", desc := "([CII)[B" } : Jvm.MethodName) jdk_52_method_16_code (6 : Nat) (Option.some (Jvm.ClassFile.FieldType.array Jvm.ClassFile.FieldType.byte))).before args0 about1 = true := code_word (m := ⟨13, 2⟩) (meth := k13m2) (c := k13c2) (by decide +kernel) rfl rfl rfl (by decide +kernel)
set_option maxRecDepth 65536 in
theorem w_c19 : (Jvm.Cond.code ({ cls := "java/lang/StringUTF16", name := "compress", desc := "([CI[BII)I" } : Jvm.MethodName) jdk_52_method_21_code (7 : Nat) (Option.some Jvm.ClassFile.FieldType.int)).before args0 about1 = true := code_word (m := ⟨13, 3⟩) (meth := k13m3) (c := k13c3) (by decide +kernel) rfl rfl rfl (by decide +kernel)
set_option maxRecDepth 65536 in
theorem w_c20 : (Jvm.Cond.code ({ cls := "java/lang/StringUTF16", name := "coderFromArrayLen", desc := "([BI)B" } : Jvm.MethodName) jdk_52_method_15_code (2 : Nat) (Option.some Jvm.ClassFile.FieldType.byte)).before args0 about1 = true := code_word (m := ⟨13, 1⟩) (meth := k13m1) (c := k13c1) (by decide +kernel) rfl rfl rfl (by decide +kernel)
set_option maxRecDepth 65536 in
theorem w_c21 : (Jvm.Cond.code ({ cls := "java/lang/String", name := "substring", desc := "(I)Ljava/lang/String;" } : Jvm.MethodName) jdk_42_method_91_code (2 : Nat) (Option.some (Jvm.ClassFile.FieldType.object "java/lang/String"))).before args0 about1 = true := code_word (m := ⟨7, 6⟩) (meth := k7m6) (c := k7c6) (by decide +kernel) rfl rfl rfl (by decide +kernel)
set_option maxRecDepth 65536 in
theorem w_c22 : (Jvm.Cond.code ({ cls := "java/lang/String", name := "substring", desc := "(II)Ljava/lang/String;" } : Jvm.MethodName) jdk_42_method_92_code (5 : Nat) (Option.some (Jvm.ClassFile.FieldType.object "java/lang/String"))).before args0 about1 = true := code_word (m := ⟨7, 7⟩) (meth := k7m7) (c := k7c7) (by decide +kernel) rfl rfl rfl (by decide +kernel)
set_option maxRecDepth 65536 in
theorem w_c23 : (Jvm.Cond.code ({ cls := "java/lang/String", name := "checkBoundsBeginEnd", desc := "(III)V" } : Jvm.MethodName) jdk_42_method_158_code (3 : Nat) (Option.none : Option Jvm.ClassFile.FieldType)).before args0 about1 = true := code_word (m := ⟨7, 12⟩) (meth := k7m12) (c := k7c12) (by decide +kernel) rfl rfl rfl (by decide +kernel)
set_option maxRecDepth 65536 in
theorem w_c24 : (Jvm.Cond.code ({ cls := "jdk/internal/util/Preconditions", name := "checkFromToIndex", desc := "(IIILjava/util/function/BiFunction;)I" } : Jvm.MethodName) jdk_41_method_12_code (4 : Nat) (Option.some Jvm.ClassFile.FieldType.int)).before args0 about1 = true := code_word (m := ⟨14, 1⟩) (meth := k14m1) (c := k14c1) (by decide +kernel) rfl rfl rfl (by decide +kernel)
set_option maxRecDepth 65536 in
theorem w_c25 : (Jvm.Cond.code ({ cls := "java/lang/StringLatin1", name := "newString", desc := "([BII)Ljava/lang/String;" } : Jvm.MethodName) jdk_43_method_47_code (3 : Nat) (Option.some (Jvm.ClassFile.FieldType.object "java/lang/String"))).before args0 about1 = true := code_word (m := ⟨10, 4⟩) (meth := k10m4) (c := k10c4) (by decide +kernel) rfl rfl rfl (by decide +kernel)
set_option maxRecDepth 65536 in
theorem w_c26 : (Jvm.Cond.code ({ cls := "java/util/Optional", name := "of", desc := "(Ljava/lang/Object;)Ljava/util/Optional;" } : Jvm.MethodName) jdk_32_method_3_code (1 : Nat) (Option.some (Jvm.ClassFile.FieldType.object "java/util/Optional"))).before args0 about1 = true := code_word (m := ⟨12, 2⟩) (meth := k12m2) (c := k12c2) (by decide +kernel) rfl rfl rfl (by decide +kernel)
set_option maxRecDepth 65536 in
theorem w_c27 : (Jvm.Cond.code ({ cls := "java/util/Objects", name := "requireNonNull", desc := "(Ljava/lang/Object;)Ljava/lang/Object;" } : Jvm.MethodName) jdk_31_method_10_code (1 : Nat) (Option.some (Jvm.ClassFile.FieldType.object "java/lang/Object"))).before args0 about1 = true := code_word (m := ⟨15, 1⟩) (meth := k15m1) (c := k15c1) (by decide +kernel) rfl rfl rfl (by decide +kernel)
set_option maxRecDepth 65536 in
theorem w_c28 : (Jvm.Cond.code ({ cls := "java/util/Optional", name := "<init>", desc := "(Ljava/lang/Object;)V" } : Jvm.MethodName) jdk_32_method_2_code (2 : Nat) (Option.none : Option Jvm.ClassFile.FieldType)).before args0 about1 = true := code_word (m := ⟨12, 1⟩) (meth := k12m1) (c := k12c1) (by decide +kernel) rfl rfl rfl (by decide +kernel)
set_option maxRecDepth 65536 in
theorem w_c29 : (Jvm.Cond.code ({ cls := "java/util/Optional", name := "get", desc := "()Ljava/lang/Object;" } : Jvm.MethodName) jdk_32_method_5_code (1 : Nat) (Option.some (Jvm.ClassFile.FieldType.object "java/lang/Object"))).before args0 about1 = true := code_word (m := ⟨12, 3⟩) (meth := k12m3) (c := k12c3) (by decide +kernel) rfl rfl rfl (by decide +kernel)
set_option maxRecDepth 65536 in
theorem w_c30 : (Jvm.Cond.code ({ cls := "java/lang/String", name := "equals", desc := "(Ljava/lang/Object;)Z" } : Jvm.MethodName) jdk_42_method_66_code (3 : Nat) (Option.some Jvm.ClassFile.FieldType.boolean)).before args0 about1 = true := code_word (m := ⟨7, 3⟩) (meth := k7m3) (c := k7c3) (by decide +kernel) rfl rfl rfl (by decide +kernel)
set_option maxRecDepth 65536 in
theorem w_c31 : (Jvm.Cond.code ({ cls := "java/lang/StringLatin1", name := "equals", desc := "([B[B)Z" } : Jvm.MethodName) jdk_43_method_13_code (3 : Nat) (Option.some Jvm.ClassFile.FieldType.boolean)).before args0 about1 = true := code_word (m := ⟨10, 2⟩) (meth := k10m2) (c := k10c2) (by decide +kernel) rfl rfl rfl (by decide +kernel)
set_option maxRecDepth 65536 in
theorem w_c32 : (Jvm.Cond.code ({ cls := "java/util/Arrays", name := "copyOfRange", desc := "([BII)[B" } : Jvm.MethodName) jdk_65_method_132_code (3 : Nat) (Option.some (Jvm.ClassFile.FieldType.array Jvm.ClassFile.FieldType.byte))).before args0 about1 = true := code_word (m := ⟨16, 2⟩) (meth := k16m2) (c := k16c2) (by decide +kernel) rfl rfl rfl (by decide +kernel)
set_option maxRecDepth 65536 in
theorem w_c33 : (Jvm.Cond.code ({ cls := "java/util/Arrays", name := "copyOfRangeByte", desc := "([BII)[B" } : Jvm.MethodName) jdk_65_method_133_code (5 : Nat) (Option.some (Jvm.ClassFile.FieldType.array Jvm.ClassFile.FieldType.byte))).before args0 about1 = true := code_word (m := ⟨16, 3⟩) (meth := k16m3) (c := k16c3) (by decide +kernel) rfl rfl rfl (by decide +kernel)
set_option maxRecDepth 65536 in
theorem w_c34 : (Jvm.Cond.code ({ cls := "java/util/Arrays", name := "checkLength", desc := "(II)V" } : Jvm.MethodName) jdk_65_method_131_code (2 : Nat) (Option.none : Option Jvm.ClassFile.FieldType)).before args0 about1 = true := code_word (m := ⟨16, 1⟩) (meth := k16m1) (c := k16c1) (by decide +kernel) rfl rfl rfl (by decide +kernel)
set_option maxRecDepth 65536 in
theorem w_c35 : (Jvm.Cond.code ({ cls := "java/lang/String", name := "<init>", desc := "([BB)V" } : Jvm.MethodName) jdk_42_method_151_code (3 : Nat) (Option.none : Option Jvm.ClassFile.FieldType)).before args0 about1 = true := code_word (m := ⟨7, 9⟩) (meth := k7m9) (c := k7c9) (by decide +kernel) rfl rfl rfl (by decide +kernel)
def codes1 : List Jvm.Cond := [Jvm.Cond.code x code maxLocals ret, Jvm.Cond.code ({ cls := "se/bryggan/saml/EidAttributeScopePinLaw", name := "ch", desc := "(I)C" } : Jvm.MethodName) method_2_code (1 : Nat) (Option.some Jvm.ClassFile.FieldType.char), Jvm.Cond.code ({ cls := "se/bryggan/saml/EidAttributeScopePinLaw", name := "str", desc := "(CCCCII)Ljava/lang/String;" } : Jvm.MethodName) method_4_code (8 : Nat) (Option.some (Jvm.ClassFile.FieldType.object "java/lang/String")), Jvm.Cond.code ({ cls := "java/lang/String", name := "<init>", desc := "([C)V" } : Jvm.MethodName) jdk_42_method_3_code (2 : Nat) (Option.none : Option Jvm.ClassFile.FieldType), Jvm.Cond.code ({ cls := "java/lang/String", name := "<init>", desc := "([CIILjava/lang/Void;)V" } : Jvm.MethodName) jdk_42_method_149_code (6 : Nat) (Option.none : Option Jvm.ClassFile.FieldType), Jvm.Cond.code ({ cls := "java/lang/Object", name := "<init>", desc := "()V" } : Jvm.MethodName) object_method_1_code (1 : Nat) (Option.none : Option Jvm.ClassFile.FieldType), Jvm.Cond.code ({ cls := "se/bryggan/saml/EidAttribute", name := "scope", desc := "(Ljava/lang/String;)Ljava/util/Optional;" } : Jvm.MethodName) prog_20_method_8_code (2 : Nat) (Option.some (Jvm.ClassFile.FieldType.object "java/util/Optional")), Jvm.Cond.code ({ cls := "java/lang/String", name := "lastIndexOf", desc := "(I)I" } : Jvm.MethodName) jdk_42_method_82_code (2 : Nat) (Option.some Jvm.ClassFile.FieldType.int), Jvm.Cond.code ({ cls := "java/lang/String", name := "length", desc := "()I" } : Jvm.MethodName) jdk_42_method_54_code (1 : Nat) (Option.some Jvm.ClassFile.FieldType.int), Jvm.Cond.code ({ cls := "java/lang/String", name := "coder", desc := "()B" } : Jvm.MethodName) jdk_42_method_152_code (1 : Nat) (Option.some Jvm.ClassFile.FieldType.byte), Jvm.Cond.code ({ cls := "java/lang/String", name := "lastIndexOf", desc := "(II)I" } : Jvm.MethodName) jdk_42_method_83_code (3 : Nat) (Option.some Jvm.ClassFile.FieldType.int), Jvm.Cond.code ({ cls := "java/lang/String", name := "isLatin1", desc := "()Z" } : Jvm.MethodName) jdk_42_method_154_code (1 : Nat) (Option.some Jvm.ClassFile.FieldType.boolean), Jvm.Cond.code ({ cls := "java/lang/StringLatin1", name := "lastIndexOf", desc := "([BII)I" } : Jvm.MethodName) jdk_43_method_27_code (4 : Nat) (Option.some Jvm.ClassFile.FieldType.int), Jvm.Cond.code ({ cls := "java/lang/StringLatin1", name := "canEncode", desc := "(I)Z" } : Jvm.MethodName) jdk_43_method_4_code (1 : Nat) (Option.some Jvm.ClassFile.FieldType.boolean), Jvm.Cond.code ({ cls := "java/lang/Math", name := "min", desc := "(II)I" } : Jvm.MethodName) jdk_29_method_69_code (2 : Nat) (Option.some Jvm.ClassFile.FieldType.int), Jvm.Cond.code ({ cls := "java/util/Optional", name := "empty", desc := "()Ljava/util/Optional;" } : Jvm.MethodName) jdk_32_method_1_code (1 : Nat) (Option.some (Jvm.ClassFile.FieldType.object "java/util/Optional")), Jvm.Cond.code ({ cls := "java/util/Optional", name := "isPresent", desc := "()Z" } : Jvm.MethodName) jdk_32_method_6_code (1 : Nat) (Option.some Jvm.ClassFile.FieldType.boolean), Jvm.Cond.code ({ cls := "se/bryggan/saml/EidAttributeScopePinLaw", name := "pick", desc := "(CCCCI)C" } : Jvm.MethodName) method_3_code (5 : Nat) (Option.some Jvm.ClassFile.FieldType.char), Jvm.Cond.code ({ cls := "java/lang/StringUTF16", name := "compress", desc := "([CII)[B" } : Jvm.MethodName) jdk_52_method_16_code (6 : Nat) (Option.some (Jvm.ClassFile.FieldType.array Jvm.ClassFile.FieldType.byte)), Jvm.Cond.code ({ cls := "java/lang/StringUTF16", name := "compress", desc := "([CI[BII)I" } : Jvm.MethodName) jdk_52_method_21_code (7 : Nat) (Option.some Jvm.ClassFile.FieldType.int), Jvm.Cond.code ({ cls := "java/lang/StringUTF16", name := "coderFromArrayLen", desc := "([BI)B" } : Jvm.MethodName) jdk_52_method_15_code (2 : Nat) (Option.some Jvm.ClassFile.FieldType.byte), Jvm.Cond.code ({ cls := "java/lang/String", name := "substring", desc := "(I)Ljava/lang/String;" } : Jvm.MethodName) jdk_42_method_91_code (2 : Nat) (Option.some (Jvm.ClassFile.FieldType.object "java/lang/String")), Jvm.Cond.code ({ cls := "java/lang/String", name := "substring", desc := "(II)Ljava/lang/String;" } : Jvm.MethodName) jdk_42_method_92_code (5 : Nat) (Option.some (Jvm.ClassFile.FieldType.object "java/lang/String")), Jvm.Cond.code ({ cls := "java/lang/String", name := "checkBoundsBeginEnd", desc := "(III)V" } : Jvm.MethodName) jdk_42_method_158_code (3 : Nat) (Option.none : Option Jvm.ClassFile.FieldType), Jvm.Cond.code ({ cls := "jdk/internal/util/Preconditions", name := "checkFromToIndex", desc := "(IIILjava/util/function/BiFunction;)I" } : Jvm.MethodName) jdk_41_method_12_code (4 : Nat) (Option.some Jvm.ClassFile.FieldType.int), Jvm.Cond.code ({ cls := "java/lang/StringLatin1", name := "newString", desc := "([BII)Ljava/lang/String;" } : Jvm.MethodName) jdk_43_method_47_code (3 : Nat) (Option.some (Jvm.ClassFile.FieldType.object "java/lang/String")), Jvm.Cond.code ({ cls := "java/util/Optional", name := "of", desc := "(Ljava/lang/Object;)Ljava/util/Optional;" } : Jvm.MethodName) jdk_32_method_3_code (1 : Nat) (Option.some (Jvm.ClassFile.FieldType.object "java/util/Optional")), Jvm.Cond.code ({ cls := "java/util/Objects", name := "requireNonNull", desc := "(Ljava/lang/Object;)Ljava/lang/Object;" } : Jvm.MethodName) jdk_31_method_10_code (1 : Nat) (Option.some (Jvm.ClassFile.FieldType.object "java/lang/Object")), Jvm.Cond.code ({ cls := "java/util/Optional", name := "<init>", desc := "(Ljava/lang/Object;)V" } : Jvm.MethodName) jdk_32_method_2_code (2 : Nat) (Option.none : Option Jvm.ClassFile.FieldType), Jvm.Cond.code ({ cls := "java/util/Optional", name := "get", desc := "()Ljava/lang/Object;" } : Jvm.MethodName) jdk_32_method_5_code (1 : Nat) (Option.some (Jvm.ClassFile.FieldType.object "java/lang/Object")), Jvm.Cond.code ({ cls := "java/lang/String", name := "equals", desc := "(Ljava/lang/Object;)Z" } : Jvm.MethodName) jdk_42_method_66_code (3 : Nat) (Option.some Jvm.ClassFile.FieldType.boolean), Jvm.Cond.code ({ cls := "java/lang/StringLatin1", name := "equals", desc := "([B[B)Z" } : Jvm.MethodName) jdk_43_method_13_code (3 : Nat) (Option.some Jvm.ClassFile.FieldType.boolean), Jvm.Cond.code ({ cls := "java/util/Arrays", name := "copyOfRange", desc := "([BII)[B" } : Jvm.MethodName) jdk_65_method_132_code (3 : Nat) (Option.some (Jvm.ClassFile.FieldType.array Jvm.ClassFile.FieldType.byte)), Jvm.Cond.code ({ cls := "java/util/Arrays", name := "copyOfRangeByte", desc := "([BII)[B" } : Jvm.MethodName) jdk_65_method_133_code (5 : Nat) (Option.some (Jvm.ClassFile.FieldType.array Jvm.ClassFile.FieldType.byte)), Jvm.Cond.code ({ cls := "java/util/Arrays", name := "checkLength", desc := "(II)V" } : Jvm.MethodName) jdk_65_method_131_code (2 : Nat) (Option.none : Option Jvm.ClassFile.FieldType), Jvm.Cond.code ({ cls := "java/lang/String", name := "<init>", desc := "([BB)V" } : Jvm.MethodName) jdk_42_method_151_code (3 : Nat) (Option.none : Option Jvm.ClassFile.FieldType)]
set_option maxRecDepth 65536 in
theorem codes_eq : words1.filter isCode = codes1 := rfl
theorem w_codes : ∀ c ∈ words1.filter isCode, c.before args0 about1 = true := by
  rw [codes_eq]
  intro c hc
  simp only [codes1, List.mem_cons, List.not_mem_nil, or_false] at hc
  rcases hc with rfl | rfl | rfl | rfl | rfl | rfl | rfl | rfl | rfl | rfl | rfl | rfl | rfl | rfl | rfl | rfl | rfl | rfl | rfl | rfl | rfl | rfl | rfl | rfl | rfl | rfl | rfl | rfl | rfl | rfl | rfl | rfl | rfl | rfl | rfl | rfl
  · exact w_c0
  · exact w_c1
  · exact w_c2
  · exact w_c3
  · exact w_c4
  · exact w_c5
  · exact w_c6
  · exact w_c7
  · exact w_c8
  · exact w_c9
  · exact w_c10
  · exact w_c11
  · exact w_c12
  · exact w_c13
  · exact w_c14
  · exact w_c15
  · exact w_c16
  · exact w_c17
  · exact w_c18
  · exact w_c19
  · exact w_c20
  · exact w_c21
  · exact w_c22
  · exact w_c23
  · exact w_c24
  · exact w_c25
  · exact w_c26
  · exact w_c27
  · exact w_c28
  · exact w_c29
  · exact w_c30
  · exact w_c31
  · exact w_c32
  · exact w_c33
  · exact w_c34
  · exact w_c35
set_option maxRecDepth 65536 in
theorem w_t1 : (words1.take 24).all (fun c => isCode c || c.before args0 about1) = true := by decide +kernel
set_option maxRecDepth 65536 in
theorem w_t2 : ((words1.drop 24).take 24).all (fun c => isCode c || c.before args0 about1) = true := by decide +kernel
set_option maxRecDepth 65536 in
theorem w_t3 : (((words1.drop 24).drop 24).take 24).all (fun c => isCode c || c.before args0 about1) = true := by decide +kernel
set_option maxRecDepth 65536 in
theorem w_t4 : ((((words1.drop 24).drop 24).drop 24).take 24).all (fun c => isCode c || c.before args0 about1) = true := by decide +kernel
set_option maxRecDepth 65536 in
theorem w_t5 : (((((words1.drop 24).drop 24).drop 24).drop 24).take 24).all (fun c => isCode c || c.before args0 about1) = true := by decide +kernel
set_option maxRecDepth 65536 in
theorem w_t6 : ((((((words1.drop 24).drop 24).drop 24).drop 24).drop 24).take 24).all (fun c => isCode c || c.before args0 about1) = true := by decide +kernel
set_option maxRecDepth 65536 in
theorem w_t7 : ((((((words1.drop 24).drop 24).drop 24).drop 24).drop 24).drop 24).all (fun c => isCode c || c.before args0 about1) = true := by decide +kernel
theorem w_tables : (allAtoms (Jvm.Cond.code x code maxLocals ret :: tables_1)).before args0 about1 = true := by
  rw [allAtoms_all]
  show words1.all (fun c => c.before args0 about1) = true
  refine all_split ?_ w_codes
  rw [← List.take_append_drop 24 words1, List.all_append, w_t1, ← List.take_append_drop 24 (words1.drop 24), List.all_append, w_t2, ← List.take_append_drop 24 ((words1.drop 24).drop 24), List.all_append, w_t3, ← List.take_append_drop 24 (((words1.drop 24).drop 24).drop 24), List.all_append, w_t4, ← List.take_append_drop 24 ((((words1.drop 24).drop 24).drop 24).drop 24), List.all_append, w_t5, ← List.take_append_drop 24 (((((words1.drop 24).drop 24).drop 24).drop 24).drop 24), List.all_append, w_t6, w_t7]
  rfl
set_option maxRecDepth 65536 in
theorem w_rest : rest_1_c.before args0 about1 = true := by decide +kernel
set_option maxRecDepth 65536 in
theorem w_case : (Jvm.Cond.and given_1 narrow_1).before args0 about1 = true := by decide +kernel
set_option maxRecDepth 65536 in
theorem w_consts : constsHeld consts_1 about1 := Jvm.Lit.constsHeldB_iff.mp (by decide +kernel)
theorem w_applies : (headSpec (Jvm.Cond.code x code maxLocals ret :: tables_1) room_1).applies x e0.platform about1 = true :=
  (Spec.applies_iff w_frames).mpr ⟨w_running, w_runnable, w_alone, w_named, w_hears, w_ripe, w_room, w_tables⟩
theorem atStart : AtStart classFile x code maxLocals ret World_1 tables_1 room_1 Calls_1 rest_1 Pre_1 launch0 p0 e0 about1 theMethod args0 below0 :=
  ⟨lists_1, trivial, launch0.admits_env _ _ _, launch0.least_env, fairChoices_fair.cas, fairChoices_fair.clock, w_frames, w_args, w_heap, w_applies, ⟨w_consts, trivial⟩, w_rest, w_case⟩
end start1
theorem witness_1 : WitnessClaimed_1 := ⟨start1.p0, start1.e0, start1.about1, start1.theMethod, start1.args0, start1.below0, start1.atStart⟩
end Jvm.Pilot.@@N@@
