import JvmDerived
import JvmDerived.Pilot.@@N@@Statement
import JvmDerived.Pilot.@@N@@Code
set_option linter.unusedVariables false
set_option linter.unusedSimpArgs false
namespace Jvm.RoadKit
open Sem ClassFile Op Lib Jvm.Stand Jvm.Free Jvm.LawKit
section Own
variable {p : Program} {l : Launch} {e : Env} {R : Room} {s : State} {m : MethodId} {args : Array Value} {below : List Frame} {meth : Method} {c : Code} {T : State} {locs : List Loc} {cells slots : Nat} {Z : State} {a0 : Array Value} {h : Heap}
/-- from T with the frame g on top the run comes back with what Q says -/
def Go (p : Program) (e : Env) (below : List Frame) (Fin' : Outcome → State → Prop) (T : State) (g : JFrame) : Prop :=
  ∃ s₂ o, Steps p.tables e below (T.setTop g) s₂ ∧ s₂.status = .running ∧ Ended s₂ below o ∧ Fin' o s₂
/-- how a body ends -/
def Fn (s : State) (RC RS : Nat) (Q : Option Value → Heap → List Loc → Prop) (o : Outcome) (t : State) : Prop := ∃ v L, o = .returned v ∧ Q v t.heap L ∧ FrameEnd s o t L RC RS
/-- what stands fast through a body's walk -/
def Cx (p : Program) (s : State) (m : MethodId) (meth : Method) (c : Code) (Z : State) (own nm : String) (bytes : ByteArray) (maxL : Nat) (ret : Option FieldType) : Prop :=
  p.tables.exec = Jvm.exec ∧ Z.Warmed39 s.vm ∧ s.vm.findClass own = some m.cls ∧ c.code = bytes ∧ c.maxLocals = maxL ∧ meth.sig.returnType = ret ∧ meth.name = nm ∧ meth.locks = false
variable {RC RS : Nat} {Q : Option Value → Heap → List Loc → Prop} {Fin' : Outcome → State → Prop} {own nm : String} {bytes : ByteArray} {maxL : Nat} {ret : Option FieldType} {pc pc' : Nat} {Ls Ls' : Array Slot} {S : List Value}
theorem Go.via {T' : State} {g g' : JFrame} (G : Go p e below Fin' T' g') (k : ∀ t, Steps p.tables e below (T'.setTop g') t → Steps p.tables e below (T.setTop g) t) : Go p e below Fin' T g := by
  obtain ⟨s₂, o, st, r⟩ := G; exact ⟨s₂, o, k _ st, r⟩
theorem Go.cast {g g' : JFrame} (q : g = g') (G : Go p e below Fin' T g') : Go p e below Fin' T g := q ▸ G
/-- a body's contract -/
def Met1 (l : Launch) (Z : State) (y : MethodName) (bytes : ByteArray) (maxL : Nat) (ret : Option FieldType) (rm : Room) (as' : Array Value) (h0 : Heap) (Q : Option Value → Heap → List Loc → Prop) : Prop :=
  ∀ ws : List Jvm.Cond, MetFree l y (head1 (Jvm.Cond.code y bytes maxL ret :: ws) rm) (fun a U => a = as' ∧ Z.Warmed39 U.vm ∧ U.heap = h0) (fun _ _ _ _ _ => True) (fun _ U o U' => ∃ v L, o = .returned v ∧ Q v U'.heap L ∧ FrameEnd U o U' L rm.cells rm.slots)
theorem Met1.of_body {y : MethodName} {rm : Room} {as' : Array Value} {h0 : Heap} (hp : plainFor y = true) (ef : ∀ m, entryFrame m as' maxL = mkF m 0 Ls [])
    (body : ∀ {p : Program} {e : Env} {s : State} {m : MethodId} {below : List Frame} {meth : Method} {c : Code} {T : State}, Cx p s m meth c Z y.cls y.name bytes maxL ret → Stand p l e rm s m as' below meth c T [] 0 0 → T.heap = h0 → Go p e below (Fn s rm.cells rm.slots Q) T (mkF m 0 Ls [])) :
    Met1 l Z y bytes maxL ret rm as' h0 Q := by
  intro ws
  refine MetFree.of_bodySF hp hisR ?_
  intro p e s m args below meth c s₁ Bd hml0 hP hK
  obtain ⟨rfl, hZ, hh⟩ := hP
  have X0 : Stand p l e rm s m args below meth c s₁ [] 0 0 := Stand.of_body Bd
  have hlk : meth.locks = false := BodyLoose.notSynchronized Bd
  obtain ⟨s₂, o, st, r1, r2, r3⟩ := body (p := p) (e := e) (s := s) (m := m) (below := below) (meth := meth) (c := c) (T := s₁) ⟨Bd.exec, hZ, findClass_of_methodNamed Bd.named, Bd.bytes, hml0, Bd.returns, (name_of_methodNamed Bd.named Bd.method).1, hlk⟩ X0 (by rw [← hh, Bd.state]; rfl)
  exact ⟨s₂, o, castTop (ef m) st, r1, r2, r3⟩
/-- a contract may say less -/
theorem Met1.weak {y : MethodName} {rm : Room} {as' : Array Value} {h0 : Heap} {Q' : Option Value → Heap → List Loc → Prop} (M : Met1 l Z y bytes maxL ret rm as' h0 Q) (q : ∀ v h L, Q v h L → Q' v h L) : Met1 l Z y bytes maxL ret rm as' h0 Q' := by
  intro ws p e ha hc hk s m args below hf happ hP hK
  obtain ⟨n, o, h1, h2, h3, v, L, h4, h5, h6⟩ := M ws p e ha hc hk s m args below hf happ hP hK
  exact ⟨n, o, h1, h2, h3, v, L, h4, q _ _ _ h5, h6⟩

/-! plain steps -/
theorem Go.aloadN (C : Cx p s m meth c Z own nm bytes maxL ret) (X : Stand p l e R s m args below meth c T locs cells slots) {k : Fin 4} {v : Value} (hd : decode bytes pc = .ok (.aload_n k, 1)) (hl : Ls[k.val]? = some (.val v)) (hv : v.isRef = true) (hp : pc + 1 = pc') (G : Go p e below Fin' T (mkF m pc' Ls (v :: S))) : Go p e below Fin' T (mkF m pc Ls S) := by
  subst hp; exact G.via fun _ k => XS.aloadN X.here C.1 rfl (hb C.2.2.2.1 hd) hl hv k
theorem Go.aload (C : Cx p s m meth c Z own nm bytes maxL ret) (X : Stand p l e R s m args below meth c T locs cells slots) {k : Nat} {v : Value} (hd : decode bytes pc = .ok (.aload k, 2)) (hl : Ls[k]? = some (.val v)) (hv : v.isRef = true) (hp : pc + 2 = pc') (G : Go p e below Fin' T (mkF m pc' Ls (v :: S))) : Go p e below Fin' T (mkF m pc Ls S) := by
  subst hp; exact G.via fun _ k => XS.aload X.here C.1 rfl (hb C.2.2.2.1 hd) hl hv k
theorem Go.iloadN (C : Cx p s m meth c Z own nm bytes maxL ret) (X : Stand p l e R s m args below meth c T locs cells slots) {k : Fin 4} {v : Int32} (hd : decode bytes pc = .ok (.iload_n k, 1)) (hl : Ls[k.val]? = some (.val (.int v))) (hp : pc + 1 = pc') (G : Go p e below Fin' T (mkF m pc' Ls (.int v :: S))) : Go p e below Fin' T (mkF m pc Ls S) := by
  subst hp; exact G.via fun _ k => XS.iloadN X.here C.1 rfl (hb C.2.2.2.1 hd) hl k
theorem Go.iload (C : Cx p s m meth c Z own nm bytes maxL ret) (X : Stand p l e R s m args below meth c T locs cells slots) {k : Nat} {v : Int32} (hd : decode bytes pc = .ok (.iload k, 2)) (hl : Ls[k]? = some (.val (.int v))) (hp : pc + 2 = pc') (G : Go p e below Fin' T (mkF m pc' Ls (.int v :: S))) : Go p e below Fin' T (mkF m pc Ls S) := by
  subst hp; exact G.via fun _ k => XS.iload X.here C.1 rfl (hb C.2.2.2.1 hd) hl k
theorem Go.istoreN (C : Cx p s m meth c Z own nm bytes maxL ret) (X : Stand p l e R s m args below meth c T locs cells slots) {k : Fin 4} {v : Int32} (hd : decode bytes pc = .ok (.istore_n k, 1)) (hl : storeLocals Ls k.val (.int v) = some Ls') (hp : pc + 1 = pc') (G : Go p e below Fin' T (mkF m pc' Ls' S)) : Go p e below Fin' T (mkF m pc Ls (.int v :: S)) := by
  subst hp; exact G.via fun _ k => XS.istoreN X.here C.1 rfl (hb C.2.2.2.1 hd) rfl hl k
theorem Go.istore (C : Cx p s m meth c Z own nm bytes maxL ret) (X : Stand p l e R s m args below meth c T locs cells slots) {k : Nat} {v : Int32} (hd : decode bytes pc = .ok (.istore k, 2)) (hl : storeLocals Ls k (.int v) = some Ls') (hp : pc + 2 = pc') (G : Go p e below Fin' T (mkF m pc' Ls' S)) : Go p e below Fin' T (mkF m pc Ls (.int v :: S)) := by
  subst hp; exact G.via fun _ k => XS.istore X.here C.1 rfl (hb C.2.2.2.1 hd) rfl hl k
theorem Go.astoreN (C : Cx p s m meth c Z own nm bytes maxL ret) (X : Stand p l e R s m args below meth c T locs cells slots) {k : Fin 4} {v : Value} (hd : decode bytes pc = .ok (.astore_n k, 1)) (hv : v.isRef = true) (hl : storeLocals Ls k.val v = some Ls') (hp : pc + 1 = pc') (G : Go p e below Fin' T (mkF m pc' Ls' S)) : Go p e below Fin' T (mkF m pc Ls (v :: S)) := by
  subst hp; exact G.via fun _ k => XS.astoreN X.here C.1 rfl (hb C.2.2.2.1 hd) rfl hv hl k
theorem Go.astore (C : Cx p s m meth c Z own nm bytes maxL ret) (X : Stand p l e R s m args below meth c T locs cells slots) {k : Nat} {v : Value} (hd : decode bytes pc = .ok (.astore k, 2)) (hv : v.isRef = true) (hl : storeLocals Ls k v = some Ls') (hp : pc + 2 = pc') (G : Go p e below Fin' T (mkF m pc' Ls' S)) : Go p e below Fin' T (mkF m pc Ls (v :: S)) := by
  subst hp; exact G.via fun _ k => XS.astore X.here C.1 rfl (hb C.2.2.2.1 hd) rfl hv hl k
theorem Go.iconst (C : Cx p s m meth c Z own nm bytes maxL ret) (X : Stand p l e R s m args below meth c T locs cells slots) {i : Int} {z : Int32} (hd : decode bytes pc = .ok (.iconst i, 1)) (hz : Int32.ofInt i = z) (hp : pc + 1 = pc') (G : Go p e below Fin' T (mkF m pc' Ls (.int z :: S))) : Go p e below Fin' T (mkF m pc Ls S) := by
  subst hp; exact G.via fun _ k => XT.iconstV X.here C.1 rfl z (hb C.2.2.2.1 hd) hz k
theorem Go.bipush (C : Cx p s m meth c Z own nm bytes maxL ret) (X : Stand p l e R s m args below meth c T locs cells slots) {i : Int} {z : Int32} (hd : decode bytes pc = .ok (.bipush i, 2)) (hz : (Int8.ofInt i).toInt32 = z) (hp : pc + 2 = pc') (G : Go p e below Fin' T (mkF m pc' Ls (.int z :: S))) : Go p e below Fin' T (mkF m pc Ls S) := by
  subst hp; exact G.via fun _ k => XT.bipushV X.here C.1 rfl z (hb C.2.2.2.1 hd) hz k
theorem Go.sipush (C : Cx p s m meth c Z own nm bytes maxL ret) (X : Stand p l e R s m args below meth c T locs cells slots) {i : Int} {z : Int32} (hd : decode bytes pc = .ok (.sipush i, 3)) (hz : (Int16.ofInt i).toInt32 = z) (hp : pc + 3 = pc') (G : Go p e below Fin' T (mkF m pc' Ls (.int z :: S))) : Go p e below Fin' T (mkF m pc Ls S) := by
  subst hp; exact G.via fun _ k => XT.sipushV X.here C.1 rfl z (hb C.2.2.2.1 hd) hz k
theorem Go.aconstNull (C : Cx p s m meth c Z own nm bytes maxL ret) (X : Stand p l e R s m args below meth c T locs cells slots)  (hd : decode bytes pc = .ok (.aconst_null, 1))  (hp : pc + 1 = pc') (G : Go p e below Fin' T (mkF m pc' Ls (.null :: S))) : Go p e below Fin' T (mkF m pc Ls S) := by
  subst hp; exact G.via fun _ k => XS.aconstNull X.here C.1 rfl (hb C.2.2.2.1 hd) k
theorem Go.ldcI (C : Cx p s m meth c Z own nm bytes maxL ret) (X : Stand p l e R s m args below meth c T locs cells slots) {i : Nat} {z : Int32} (hd : decode bytes pc = .ok (.ldc i, 2)) (w : (Cond.constant own i z).before a0 Z = true) (hp : pc + 2 = pc') (G : Go p e below Fin' T (mkF m pc' Ls (.int z :: S))) : Go p e below Fin' T (mkF m pc Ls S) := by
  subst hp; exact G.via fun _ k => X.ldcI C.1 C.2.2.1 (mvT C.2.1 w) rfl (hb C.2.2.2.1 hd) k
theorem Go.isub (C : Cx p s m meth c Z own nm bytes maxL ret) (X : Stand p l e R s m args below meth c T locs cells slots) {x y : Int32} (hd : decode bytes pc = .ok (.isub, 1))  (hp : pc + 1 = pc') (G : Go p e below Fin' T (mkF m pc' Ls (.int (x - y) :: S))) : Go p e below Fin' T (mkF m pc Ls (.int y :: .int x :: S)) := by
  subst hp; exact G.via fun _ k => XS.isub X.here C.1 rfl (hb C.2.2.2.1 hd) rfl k
theorem Go.iand (C : Cx p s m meth c Z own nm bytes maxL ret) (X : Stand p l e R s m args below meth c T locs cells slots) {x y : Int32} (hd : decode bytes pc = .ok (.iand, 1))  (hp : pc + 1 = pc') (G : Go p e below Fin' T (mkF m pc' Ls (.int (x &&& y) :: S))) : Go p e below Fin' T (mkF m pc Ls (.int y :: .int x :: S)) := by
  subst hp; exact G.via fun _ k => XS.iand X.here C.1 rfl (hb C.2.2.2.1 hd) rfl k
theorem Go.ior (C : Cx p s m meth c Z own nm bytes maxL ret) (X : Stand p l e R s m args below meth c T locs cells slots) {x y : Int32} (hd : decode bytes pc = .ok (.ior, 1))  (hp : pc + 1 = pc') (G : Go p e below Fin' T (mkF m pc' Ls (.int (x ||| y) :: S))) : Go p e below Fin' T (mkF m pc Ls (.int y :: .int x :: S)) := by
  subst hp; exact G.via fun _ k => XS.ior X.here C.1 rfl (hb C.2.2.2.1 hd) rfl k
theorem Go.ishl (C : Cx p s m meth c Z own nm bytes maxL ret) (X : Stand p l e R s m args below meth c T locs cells slots) {x y : Int32} (hd : decode bytes pc = .ok (.ishl, 1))  (hp : pc + 1 = pc') (G : Go p e below Fin' T (mkF m pc' Ls (.int (x <<< (y &&& 31)) :: S))) : Go p e below Fin' T (mkF m pc Ls (.int y :: .int x :: S)) := by
  subst hp; exact G.via fun _ k => XS.ishl X.here C.1 rfl (hb C.2.2.2.1 hd) rfl k
theorem Go.ishr (C : Cx p s m meth c Z own nm bytes maxL ret) (X : Stand p l e R s m args below meth c T locs cells slots) {x y : Int32} (hd : decode bytes pc = .ok (.ishr, 1))  (hp : pc + 1 = pc') (G : Go p e below Fin' T (mkF m pc' Ls (.int (x >>> (y &&& 31)) :: S))) : Go p e below Fin' T (mkF m pc Ls (.int y :: .int x :: S)) := by
  subst hp; exact G.via fun _ k => XS.ishr X.here C.1 rfl (hb C.2.2.2.1 hd) rfl k
theorem Go.iushr (C : Cx p s m meth c Z own nm bytes maxL ret) (X : Stand p l e R s m args below meth c T locs cells slots) {x y : Int32} (hd : decode bytes pc = .ok (.iushr, 1))  (hp : pc + 1 = pc') (G : Go p e below Fin' T (mkF m pc' Ls (.int ((x.toUInt32 >>> (y &&& 31).toUInt32).toInt32) :: S))) : Go p e below Fin' T (mkF m pc Ls (.int y :: .int x :: S)) := by
  subst hp; exact G.via fun _ k => XS.iushr X.here C.1 rfl (hb C.2.2.2.1 hd) rfl k
theorem Go.irem (C : Cx p s m meth c Z own nm bytes maxL ret) (X : Stand p l e R s m args below meth c T locs cells slots) {x y : Int32} (hd : decode bytes pc = .ok (.irem, 1)) (hy : y ≠ 0) (hp : pc + 1 = pc') (G : Go p e below Fin' T (mkF m pc' Ls (.int (x % y) :: S))) : Go p e below Fin' T (mkF m pc Ls (.int y :: .int x :: S)) := by
  subst hp; exact G.via fun _ k => iremM X C.1 rfl (hb C.2.2.2.1 hd) rfl hy k
theorem Go.i2b (C : Cx p s m meth c Z own nm bytes maxL ret) (X : Stand p l e R s m args below meth c T locs cells slots) {x : Int32} (hd : decode bytes pc = .ok (.i2b, 1))  (hp : pc + 1 = pc') (G : Go p e below Fin' T (mkF m pc' Ls (.int (x.toInt8.toInt32) :: S))) : Go p e below Fin' T (mkF m pc Ls (.int x :: S)) := by
  subst hp; exact G.via fun _ k => XS.i2b X.here C.1 rfl (hb C.2.2.2.1 hd) rfl k
theorem Go.i2c (C : Cx p s m meth c Z own nm bytes maxL ret) (X : Stand p l e R s m args below meth c T locs cells slots) {x : Int32} (hd : decode bytes pc = .ok (.i2c, 1))  (hp : pc + 1 = pc') (G : Go p e below Fin' T (mkF m pc' Ls (.int (x.toUInt32.toUInt16.toUInt32.toInt32) :: S))) : Go p e below Fin' T (mkF m pc Ls (.int x :: S)) := by
  subst hp; exact G.via fun _ k => XS.i2c X.here C.1 rfl (hb C.2.2.2.1 hd) rfl k
theorem Go.iinc (C : Cx p s m meth c Z own nm bytes maxL ret) (X : Stand p l e R s m args below meth c T locs cells slots) {k : Nat} {i : Int} {z x : Int32} (hd : decode bytes pc = .ok (.iinc k i, 3)) (hz : Int32.ofInt i = z) (hl : Ls[k]? = some (.val (.int x))) (hl' : storeLocals Ls k (.int (x + z)) = some Ls') (hp : pc + 3 = pc') (G : Go p e below Fin' T (mkF m pc' Ls' S)) : Go p e below Fin' T (mkF m pc Ls S) := by
  subst hp; exact G.via fun _ k => XT.iincV X.here C.1 rfl z (hb C.2.2.2.1 hd) hz hl hl' k
theorem Go.dup (C : Cx p s m meth c Z own nm bytes maxL ret) (X : Stand p l e R s m args below meth c T locs cells slots) {v : Value} (hd : decode bytes pc = .ok (.dup, 1)) (hc : v.category = 1) (hp : pc + 1 = pc') (G : Go p e below Fin' T (mkF m pc' Ls (v :: v :: S))) : Go p e below Fin' T (mkF m pc Ls (v :: S)) := by
  subst hp; exact G.via fun _ k => XS.dup X.here C.1 rfl (hb C.2.2.2.1 hd) rfl hc k
theorem Go.goto (C : Cx p s m meth c Z own nm bytes maxL ret) (X : Stand p l e R s m args below meth c T locs cells slots)  {o : Int} (hd : decode bytes pc = .ok (.goto o, 3))  (ho : 0 ≤ (pc : Int) + o) (hp : ((pc : Int) + o).toNat = pc') (G : Go p e below Fin' T (mkF m pc' Ls S)) : Go p e below Fin' T (mkF m pc Ls S) :=
  G.via fun _ k => XS.goto X.here C.1 rfl rfl (hb C.2.2.2.1 hd) ho hp k
theorem Go.ifYes (C : Cx p s m meth c Z own nm bytes maxL ret) (X : Stand p l e R s m args below meth c T locs cells slots) {cd : ClassFile.Cond} {x : Int32} {o : Int} (hd : decode bytes pc = .ok (.ifCond cd o, 3)) (hc : ifCond.holds cd x = true) (ho : 0 ≤ (pc : Int) + o) (hp : ((pc : Int) + o).toNat = pc') (G : Go p e below Fin' T (mkF m pc' Ls S)) : Go p e below Fin' T (mkF m pc Ls (.int x :: S)) :=
  G.via fun _ k => XS.ifYes X.here C.1 rfl rfl (hb C.2.2.2.1 hd) rfl hc ho hp k
theorem Go.ifNo (C : Cx p s m meth c Z own nm bytes maxL ret) (X : Stand p l e R s m args below meth c T locs cells slots) {cd : ClassFile.Cond} {x : Int32} {o : Int} (hd : decode bytes pc = .ok (.ifCond cd o, 3)) (hc : ifCond.holds cd x = false) (hp : pc + 3 = pc') (G : Go p e below Fin' T (mkF m pc' Ls S)) : Go p e below Fin' T (mkF m pc Ls (.int x :: S)) := by
  subst hp; exact G.via fun _ k => XS.ifNo X.here C.1 rfl (hb C.2.2.2.1 hd) rfl hc k
theorem Go.icmpYes (C : Cx p s m meth c Z own nm bytes maxL ret) (X : Stand p l e R s m args below meth c T locs cells slots) {cd : ClassFile.Cond} {x y : Int32} {o : Int} (hd : decode bytes pc = .ok (.if_icmp cd o, 3)) (hc : if_icmp.holds cd x y = true) (ho : 0 ≤ (pc : Int) + o) (hp : ((pc : Int) + o).toNat = pc') (G : Go p e below Fin' T (mkF m pc' Ls S)) : Go p e below Fin' T (mkF m pc Ls (.int y :: .int x :: S)) :=
  G.via fun _ k => XS.icmpYes X.here C.1 rfl rfl (hb C.2.2.2.1 hd) rfl hc ho hp k
theorem Go.icmpNo (C : Cx p s m meth c Z own nm bytes maxL ret) (X : Stand p l e R s m args below meth c T locs cells slots) {cd : ClassFile.Cond} {x y : Int32} {o : Int} (hd : decode bytes pc = .ok (.if_icmp cd o, 3)) (hc : if_icmp.holds cd x y = false) (hp : pc + 3 = pc') (G : Go p e below Fin' T (mkF m pc' Ls S)) : Go p e below Fin' T (mkF m pc Ls (.int y :: .int x :: S)) := by
  subst hp; exact G.via fun _ k => XS.icmpNo X.here C.1 rfl (hb C.2.2.2.1 hd) rfl hc k
theorem Go.acmpYes (C : Cx p s m meth c Z own nm bytes maxL ret) (X : Stand p l e R s m args below meth c T locs cells slots) {cd : ClassFile.ACond} {v w : Value} {o : Int} (hd : decode bytes pc = .ok (.if_acmp cd o, 3)) (hv : v.isRef = true) (hw : w.isRef = true) (hc : XT.acmp cd v w = true) (ho : 0 ≤ (pc : Int) + o) (hp : ((pc : Int) + o).toNat = pc') (G : Go p e below Fin' T (mkF m pc' Ls S)) : Go p e below Fin' T (mkF m pc Ls (w :: v :: S)) :=
  G.via fun _ k => XT.acmpYes X.here C.1 rfl rfl (hb C.2.2.2.1 hd) rfl hv hw hc ho hp k
theorem Go.acmpNo (C : Cx p s m meth c Z own nm bytes maxL ret) (X : Stand p l e R s m args below meth c T locs cells slots) {cd : ClassFile.ACond} {v w : Value} {o : Int} (hd : decode bytes pc = .ok (.if_acmp cd o, 3)) (hv : v.isRef = true) (hw : w.isRef = true) (hc : XT.acmp cd v w = false) (hp : pc + 3 = pc') (G : Go p e below Fin' T (mkF m pc' Ls S)) : Go p e below Fin' T (mkF m pc Ls (w :: v :: S)) := by
  subst hp; exact G.via fun _ k => XT.acmpNo X.here C.1 rfl (hb C.2.2.2.1 hd) rfl hv hw hc k
/-! the returns -/
theorem Go.retV (C : Cx p s m meth c Z own nm bytes maxL ret) (X : Stand p l e R s m args below meth c T locs cells slots)  (hr : ret = none) (hd : decode bytes pc = .ok (.return_, 1))  (hq : Q none T.heap locs) (hc : cells ≤ RC) (hs : slots ≤ RS) : Go p e below (Fn s RC RS Q) T (mkF m pc Ls []) := by
  have hret := C.2.2.2.2.2.1
  have hlk := C.2.2.2.2.2.2.2
  rw [hr] at hret
  obtain ⟨fs, hl, hrun, hended, hW, hsame⟩ := X.leave (v := none) (fun h => by first | rfl | (rw [hret] at h; cases h)) hlk
  exact ⟨_, _, X.returnOut C.1 hret (hb C.2.2.2.1 hd) hl, hrun, hended, _, _, rfl, hq, ⟨_, rfl⟩, hW, hsame.mono hc hs⟩
theorem Go.retN (C : Cx p s m meth c Z own nm bytes maxL ret) (X : Stand p l e R s m args below meth c T locs cells slots) {t : FieldType} {z : Int32} (hr : ret = some t) (hd : decode bytes pc = .ok (.ireturn, 1)) (ht : t = .boolean ∨ t = .byte ∨ t = .char ∨ t = .short) (hq : Q (some (.int (nar t z))) T.heap locs) (hc : cells ≤ RC) (hs : slots ≤ RS) : Go p e below (Fn s RC RS Q) T (mkF m pc Ls (.int z :: S)) := by
  have hret := C.2.2.2.2.2.1
  have hlk := C.2.2.2.2.2.2.2
  rw [hr] at hret
  obtain ⟨fs, hl, hrun, hended, hW, hsame⟩ := X.leave (v := (some (.int (nar t z)))) (fun h => by first | rfl | (rw [hret] at h; cases h)) hlk
  exact ⟨_, _, Jvm.RoadKit.retN X C.1 hret ht (hb C.2.2.2.1 hd) hl, hrun, hended, _, _, rfl, hq, ⟨_, rfl⟩, hW, hsame.mono hc hs⟩
theorem Go.retI (C : Cx p s m meth c Z own nm bytes maxL ret) (X : Stand p l e R s m args below meth c T locs cells slots) {z : Int32} (hr : ret = some .int) (hd : decode bytes pc = .ok (.ireturn, 1))  (hq : Q (some (.int z)) T.heap locs) (hc : cells ≤ RC) (hs : slots ≤ RS) : Go p e below (Fn s RC RS Q) T (mkF m pc Ls (.int z :: S)) := by
  have hret := C.2.2.2.2.2.1
  have hlk := C.2.2.2.2.2.2.2
  rw [hr] at hret
  obtain ⟨fs, hl, hrun, hended, hW, hsame⟩ := X.leave (v := (some (.int z))) (fun h => by first | rfl | (rw [hret] at h; cases h)) hlk
  exact ⟨_, _, retOut X C.1 hret rfl (Or.inl ⟨rfl, Or.inl rfl, z, rfl⟩) (hb C.2.2.2.1 hd) hl, hrun, hended, _, _, rfl, hq, ⟨_, rfl⟩, hW, hsame.mono hc hs⟩
theorem Go.retA (C : Cx p s m meth c Z own nm bytes maxL ret) (X : Stand p l e R s m args below meth c T locs cells slots) {t : FieldType} {v : Value} (hr : ret = some t) (hd : decode bytes pc = .ok (.areturn, 1)) (ht : t.isReference = true) (hv : v.isRef = true) (hn : narrow t v = v) (hq : Q (some v) T.heap locs) (hc : cells ≤ RC) (hs : slots ≤ RS) : Go p e below (Fn s RC RS Q) T (mkF m pc Ls (v :: S)) := by
  have hret := C.2.2.2.2.2.1
  have hlk := C.2.2.2.2.2.2.2
  rw [hr] at hret
  obtain ⟨fs, hl, hrun, hended, hW, hsame⟩ := X.leave (v := (some v)) (fun h => by first | rfl | (rw [hret] at h; cases h)) hlk
  exact ⟨_, _, retOut X C.1 hret hn (Or.inr (Or.inr (Or.inr (Or.inr ⟨rfl, ht, hv⟩)))) (hb C.2.2.2.1 hd) hl, hrun, hended, _, _, rfl, hq, ⟨_, rfl⟩, hW, hsame.mono hc hs⟩
/-! arrays whose elements are all known -/
def AL (Z : State) (h : Heap) (a : Addr) (k : ClassId) (ty : FieldType) (vs : List Value) : Prop := ∃ c : Cell, Arr Z h a c ty ∧ c.cls = k ∧ c.slots = vs.toArray
theorem AL.lt {a : Addr} {k : ClassId} {ty : FieldType} {vs : List Value} (F : AL Z h a k ty vs) : a < h.size := by obtain ⟨c, A, -⟩ := F; exact A.lt
theorem AL.ext {h' : Heap} {a : Addr} {k : ClassId} {ty : FieldType} {vs : List Value} (E : Ext h h') (F : AL Z h a k ty vs) : AL Z h' a k ty vs := by obtain ⟨c, A, r⟩ := F; exact ⟨c, A.ext E, r⟩
theorem AL.other {h' : Heap} {a b : Addr} {sl : Nat} {v : Value} {k : ClassId} {ty : FieldType} {vs : List Value} (W : Wr h h' a sl v) (F : AL Z h b k ty vs) (q : b ≠ a) : AL Z h' b k ty vs := by obtain ⟨c, A, r⟩ := F; exact ⟨c, A.other W q, r⟩
theorem AL.keep {h' : Heap} {a : Addr} {ws : List Addr} {k : ClassId} {ty : FieldType} {vs : List Value} (F : AL Z h a k ty vs) (K : Keep h h' ws) (q : a ∉ ws) : AL Z h' a k ty vs := by obtain ⟨c, A, r⟩ := F; exact ⟨c, ⟨K.2.1 a c A.1 q, A.2⟩, r⟩
theorem AL.set {h' : Heap} {a : Addr} {i : Nat} {v : Value} {k : ClassId} {ty : FieldType} {vs : List Value} (F : AL Z h a k ty vs) (W : Wr h h' a i v) : AL Z h' a k ty (vs.set i v) := by
  obtain ⟨c, A, r1, r2⟩ := F
  exact ⟨_, A.same W, r1, by simp [Cell.setSlot, r2]⟩
theorem AL.new {a : Addr} {k : ClassId} {ty : FieldType} {n : Int32} (A : Arr Z h a (newA k ty n) ty) : AL Z h a k ty (List.replicate n.toNatClampNeg (defaultValue ty)) := ⟨_, A, rfl, by simp [newA]⟩
theorem AL.arv {a : Addr} {k : ClassId} {ty : FieldType} {n : Int32} {vs : List Value} {dv : Value} (F : AL Z h a k ty vs) (hn : ¬ n < 0) (hl : n.toNatClampNeg = vs.length) (hf : ∀ v ∈ vs, fits ty v = true) : Arv Z h a k ty n vs dv := by
  obtain ⟨c, A, r1, r2⟩ := F
  refine ⟨c, A, r1, by rw [r2]; simp [hl], hn, fun i hi => ?_, fun i hi => ?_⟩
  · have hi' : i < vs.length := by simpa [r2] using hi
    simp [r2, List.getD, List.getElem?_eq_getElem hi']
  · have hi' : i < vs.length := by simpa [r2] using hi
    have q : vs.getD i dv = vs[i] := by simp [List.getD, List.getElem?_eq_getElem hi']
    rw [q]; exact hf _ (List.getElem_mem hi')
theorem AL.of_arv {a : Addr} {k : ClassId} {ty : FieldType} {n : Int32} {vs : List Value} {dv : Value} (F : Arv Z h a k ty n vs dv) (hl : n.toNatClampNeg = vs.length) : AL Z h a k ty vs := by
  obtain ⟨c, A, r1, r2, -, H, -⟩ := F
  refine ⟨c, A, r1, ?_⟩
  apply Array.ext_getElem?
  intro i
  by_cases hi : i < c.slots.size
  · have hi' : i < vs.length := by omega
    rw [H i hi]
    simp [List.getD, List.getElem?_eq_getElem hi']
  · have hi' : vs.length ≤ i := by omega
    rw [Array.getElem?_eq_none (by omega)]
    simp [List.getElem?_eq_none hi']
theorem Sta.old {n d K1 : String} {v : Value} (F : Sta Z Z.heap K1 n d v) (O : Ext Z.heap h) : Sta Z h K1 n d v := F.ext O
theorem Ext.trans {h1 h2 h3 : Heap} (E : Ext h1 h2) (E' : Ext h2 h3) : Ext h1 h3 := ⟨Nat.le_trans E.1 E'.1, fun x c q => E'.2 x c (E.2 x c q)⟩
theorem Ext.refl (h : Heap) : Ext h h := ⟨Nat.le_refl _, fun _ _ q => q⟩
theorem Ext.wr {h1 h2 h3 : Heap} {a : Addr} {sl : Nat} {v : Value} (E : Ext h1 h2) (W : Wr h2 h3 a sl v) (q : h1.size ≤ a) : Ext h1 h3 := by
  refine ⟨by rw [W.size]; exact E.1, fun x c hx => ?_⟩
  obtain ⟨c', e1, -, -, -, e5, -⟩ := wr_at W (E.2 x c hx)
  have ne : x ≠ a := fun e => absurd (Array.getElem?_eq_some_iff.mp hx).1 (by rw [e]; exact Nat.not_lt.mpr q)
  rw [← e5 ne]; exact e1
theorem Ext.keep {h1 h2 h3 : Heap} {ws : List Addr} (E : Ext h1 h2) (K : Keep h2 h3 ws) (q : ∀ x ∈ ws, h1.size ≤ x) : Ext h1 h3 := ⟨Nat.le_trans E.1 K.1, fun x c hx => K.2.1 x c (E.2 x c hx) fun z => absurd (Array.getElem?_eq_some_iff.mp hx).1 (Nat.not_lt.mpr (q x z))⟩
theorem Keep.toExt {h1 h2 : Heap} (K : Keep h1 h2 []) : Ext h1 h2 := ⟨K.1, fun x c hx => K.2.1 x c hx (fun z => nomatch z)⟩
theorem Keep.of_ext {h1 h2 : Heap} {ws : List Addr} (E : Ext h1 h2) : Keep h1 h2 ws := (Keep.refl h1 ws).ext E
theorem Keep.drop {h1 h2 : Heap} {ws ws' : List Addr} (K : Keep h1 h2 ws) (q : ∀ x ∈ ws, x ∈ ws' ∨ h1.size ≤ x) : Keep h1 h2 ws' := (Keep.refl h1 ws').trans K q
theorem Ins.keep {h' : Heap} {a : Addr} {ws : List Addr} {K1 : String} {bo : Bool} (F : Ins Z h a K1 bo) (K : Keep h h' ws) : Ins Z h' a K1 bo := by
  obtain ⟨cell, cT, h1, h2, h3⟩ := F
  obtain ⟨c', e1, e2, e3, -⟩ := K.2.2 _ _ h1
  exact ⟨c', cT, e1, h2, by rw [e2, e3]; exact h3⟩
/-! steps that read the tables or the heap -/
theorem Go.getF (C : Cx p s m meth c Z own nm bytes maxL ret) (X : Stand p l e R s m args below meth c T locs cells slots) {idx : Nat} {R0 O n d host : String} {a : Addr} {v : Value} (w : (Cond.fieldLink own idx R0 n d).before a0 Z = true ∨ (Cond.fieldLinkNest own idx R0 n d host).before a0 Z = true) (via : Via Z R0 O n d) (eT : T.heap = h) (F : Fld Z h a O n d v) (hd : decode bytes pc = .ok (.getfield idx, 3)) (hp : pc + 3 = pc')
    (K : ∀ T', Stand p l e R s m args below meth c T' locs cells slots → T'.heap = h → Go p e below Fin' T' (mkF m pc' Ls (v :: S))) : Go p e below Fin' T (mkF m pc Ls (.ref a :: S)) := by
  subst hp
  obtain ⟨T', X', e', st⟩ := Jvm.RoadKit.getF X C.1 C.2.1 C.2.2.1 w via eT F (g := mkF m pc Ls (.ref a :: S)) rfl rfl (hb C.2.2.2.1 hd)
  exact (K T' X' e').via st
theorem Go.getS (C : Cx p s m meth c Z own nm bytes maxL ret) (X : Stand p l e R s m args below meth c T locs cells slots) {idx : Nat} {R0 O n d host : String} {v : Value} (w : (Cond.fieldLink own idx R0 n d).before a0 Z = true ∨ (Cond.fieldLinkNest own idx R0 n d host).before a0 Z = true) (via : Via Z R0 O n d) (eT : T.heap = h) (F : Sta Z h O n d v) (hd : decode bytes pc = .ok (.getstatic idx, 3)) (hp : pc + 3 = pc')
    (K : ∀ T', Stand p l e R s m args below meth c T' locs cells slots → T'.heap = h → Go p e below Fin' T' (mkF m pc' Ls (v :: S))) : Go p e below Fin' T (mkF m pc Ls S) := by
  subst hp
  obtain ⟨T', X', e', st⟩ := getS2 X C.1 C.2.1 C.2.2.1 w via eT F (g := mkF m pc Ls S) rfl (hb C.2.2.2.1 hd)
  exact (K T' X' e').via st
theorem Go.putF (C : Cx p s m meth c Z own nm bytes maxL ret) (X : Stand p l e R s m args below meth c T locs cells slots) {idx kk : Nat} {R0 O n d host K1 : String} {a : Addr} {v old : Value} {ty : FieldType} (w : (Cond.fieldLink own idx R0 n d).before a0 Z = true ∨ (Cond.fieldLinkNest own idx R0 n d host).before a0 Z = true) (via : Via Z R0 O n d) (eT : T.heap = h) (F : Fld Z h a O n d old) (E : Exa Z h a K1) (L : (Cond.lays K1 O n d).before a0 Z = true ∨ ((Cond.laysFinal K1 O n d).before a0 Z = true ∧ own = O ∧ nm = "<init>")) (wi : (Cond.instantiable K1 kk).before a0 Z = true) (hty : parseFieldDescriptor d = some ty) (hn : narrow ty v = v) (hf : fits ty v = true) (hd : decode bytes pc = .ok (.putfield idx, 3)) (hp : pc + 3 = pc')
    (K : ∀ T' h', Stand p l e R s m args below meth c T' (locs ++ [⟨a, slotOf Z O n d⟩]) cells slots → T'.heap = h' → Wr h h' a (slotOf Z O n d) v → Fld Z h' a O n d v → Go p e below Fin' T' (mkF m pc' Ls S)) : Go p e below Fin' T (mkF m pc Ls (v :: .ref a :: S)) := by
  subst hp
  obtain ⟨T', h', X', e', W', st⟩ := Jvm.RoadKit.putF X C.1 C.2.1 C.2.2.1 w via eT F E (L.imp id fun q => ⟨q.1, q.2.1, C.2.2.2.2.2.2.1.trans q.2.2⟩) wi hty hn hf (g := mkF m pc Ls (v :: .ref a :: S)) rfl rfl (hb C.2.2.2.1 hd)
  exact (K T' h' X' e' W' (F.same W')).via st
theorem Go.putFN (C : Cx p s m meth c Z own nm bytes maxL ret) (X : Stand p l e R s m args below meth c T locs cells slots) {idx kk : Nat} {R0 O n d K1 : String} {a : Addr} {v v' old : Value} {ty : FieldType} (w : (Cond.fieldLink own idx R0 n d).before a0 Z = true) (via : Via Z R0 O n d) (eT : T.heap = h) (F : Fld Z h a O n d old) (E : Exa Z h a K1) (L : (Cond.lays K1 O n d).before a0 Z = true ∨ ((Cond.laysFinal K1 O n d).before a0 Z = true ∧ own = O ∧ nm = "<init>")) (wi : (Cond.instantiable K1 kk).before a0 Z = true) (hty : parseFieldDescriptor d = some ty) (hn : narrow ty v = v') (hf : fits ty v' = true) (hd : decode bytes pc = .ok (.putfield idx, 3)) (hp : pc + 3 = pc')
    (K : ∀ T' h', Stand p l e R s m args below meth c T' (locs ++ [⟨a, slotOf Z O n d⟩]) cells slots → T'.heap = h' → Wr h h' a (slotOf Z O n d) v' → Fld Z h' a O n d v' → Go p e below Fin' T' (mkF m pc' Ls S)) : Go p e below Fin' T (mkF m pc Ls (v :: .ref a :: S)) := by
  subst hp
  obtain ⟨T', h', X', e', W', st⟩ := Jvm.RoadKit.putFN X C.1 C.2.1 C.2.2.1 w via eT F E (L.imp id fun q => ⟨q.1, q.2.1, C.2.2.2.2.2.2.1.trans q.2.2⟩) wi hty hn hf (g := mkF m pc Ls (v :: .ref a :: S)) rfl rfl (hb C.2.2.2.1 hd)
  exact (K T' h' X' e' W' (F.same W')).via st
theorem Go.newO (C : Cx p s m meth c Z own nm bytes maxL ret) (X : Stand p l e R s m args below meth c T locs cells slots) {idx n : Nat} {K1 : String} (w : (Cond.classLink own idx K1).before a0 Z = true) (wi : (Cond.instantiable K1 n).before a0 Z = true) (wz : (Cond.initialized K1).before a0 Z = true) (eT : T.heap = h) (hc : cells + 1 ≤ R.cells) (hl : slots + n ≤ R.slots) (hd : decode bytes pc = .ok (.new idx, 3)) (hp : pc + 3 = pc')
    (K : ∀ T' h' b, Stand p l e R s m args below meth c T' locs (cells + 1) (slots + n) → T'.heap = h' → b = h.size → Ext h h' → Exa Z h' b K1 → (∀ {O nm d : String} {ty : FieldType}, Laid Z a0 K1 O nm d → parseFieldDescriptor d = some ty → Fld Z h' b O nm d (defaultValue ty)) → Go p e below Fin' T' (mkF m pc' Ls (.ref b :: S))) : Go p e below Fin' T (mkF m pc Ls S) := by
  subst hp
  obtain ⟨T', h', X', e', E', A', D', -, st⟩ := Jvm.RoadKit.newO X C.1 C.2.1 C.2.2.1 w wi wz eT (g := mkF m pc Ls S) rfl (hb C.2.2.2.1 hd) hc hl
  exact (K T' h' h.size X' e' rfl E' A' D').via st
theorem Go.newP (C : Cx p s m meth c Z own nm bytes maxL ret) (X : Stand p l e R s m args below meth c T locs cells slots) {aty : ArrayType} {n : Int32} {cap : Nat} {vs : List Value} {ad : String} (had : "[" ++ (newarray.typeOf aty).toString = ad) (w : (Cond.arrayClass (newarray.typeOf aty)).before a0 Z = true) (eT : T.heap = h) (hn : ¬ n < 0) (hcap : n.toNatClampNeg ≤ cap) (hb8 : cap * 8 ≤ 536870912) (hc : cells + 1 ≤ R.cells) (hl : slots + cap ≤ R.slots) (hvs : List.replicate n.toNatClampNeg (defaultValue (newarray.typeOf aty)) = vs) (hd : decode bytes pc = .ok (.newarray aty, 2)) (hp : pc + 2 = pc')
    (K : ∀ T' h' b k, Stand p l e R s m args below meth c T' locs (cells + 1) (slots + cap) → T'.heap = h' → b = h.size → Ext h h' → AL Z h' b k (newarray.typeOf aty) vs → Exa Z h' b ad → Go p e below Fin' T' (mkF m pc' Ls (.ref b :: S))) : Go p e below Fin' T (mkF m pc Ls (.int n :: S)) := by
  subst hp
  obtain ⟨T', h', k, X', e', E', A', E2, st⟩ := Jvm.RoadKit.newPE X C.1 C.2.1 w eT (g := mkF m pc Ls (.int n :: S)) rfl (hb C.2.2.2.1 hd) rfl hn hcap hb8 hc hl had
  exact (K T' h' h.size k X' e' rfl E' (hvs ▸ AL.new A') E2).via st
theorem AL.stoA {a y : Addr} {k : ClassId} {t0 ty : FieldType} {vs : List Value} {K1 : String} (F : AL Z h a k t0 vs) (O : OvrA Z k ty K1) (I : Ins Z h y K1 true) : Sto Z h a (.ref y) := by
  obtain ⟨c, A, r, -⟩ := F; exact Sto.ofVA A r O I
theorem Go.clone (C : Cx p s m meth c Z own nm bytes maxL ret) (X : Stand p l e R s m args below meth c T locs cells slots) {idx : Nat} {ad : String} {a : Addr} {k : ClassId} {ty : FieldType} {vs : List Value} {W cap : Nat} (w1 : (Cond.methodLink own idx ⟨ad, "clone", "()Ljava/lang/Object;"⟩).before a0 Z = true) (w2 : (Cond.sameMethod ad "java/lang/Object" "clone" "()Ljava/lang/Object;").before a0 Z = true) (w3 : (Cond.native ⟨"java/lang/Object", "clone", "()Ljava/lang/Object;"⟩).before a0 Z = true) (w4 : (Cond.instanceMethod ⟨"java/lang/Object", "clone", "()Ljava/lang/Object;"⟩).before a0 Z = true) (w5 : (Cond.selects ad ⟨ad, "clone", "()Ljava/lang/Object;"⟩ ⟨"java/lang/Object", "clone", "()Ljava/lang/Object;"⟩).before a0 Z = true) (w6 : (Cond.castable ad "java/lang/Cloneable").before a0 Z = true) (eT : T.heap = h) (F : AL Z h a k ty vs) (E : Exa Z h a ad) (hfit : ∀ v ∈ vs, fits ty v = true) (hls : Ls.size = maxL) (hf : 1 ≤ R.frames) (hW : (S.map fun v => v.category).sum ≤ W) (hlo : W + 14 ≤ R.locals) (hcap : vs.length ≤ cap) (hc : cells + 1 ≤ R.cells) (hsl : slots + cap ≤ R.slots) (hd : decode bytes pc = .ok (.invokevirtual idx, 3)) (hp : pc + 3 = pc')
    (K : ∀ T' h' b, Stand p l e R s m args below meth c T' locs (cells + 1) (slots + cap) → T'.heap = h' → b = h.size → Ext h h' → AL Z h' b k ty vs → Exa Z h' b ad → Go p e below Fin' T' (mkF m pc' Ls (.ref b :: S))) : Go p e below Fin' T (mkF m pc Ls (.ref a :: S)) := by
  subst hp
  obtain ⟨cl, A, q1, q2⟩ := F
  have FC : FitC Z cl := fitC_of A fun i hi v hv => by
    rw [q2] at hv
    exact hfit v (List.mem_of_getElem? (by simpa using hv))
  have hsz : cl.slots.size = vs.length := by rw [q2]; simp
  obtain ⟨T', h', X', e', ex, A', E', st⟩ := cloneA X C.1 C.2.1 C.2.2.1 w1 w2 w3 w4 w5 w6 eT A E FC (g := mkF m pc Ls (.ref a :: S)) rfl (by show Ls.size = _; rw [C.2.2.2.2.1]; exact hls) rfl (hb C.2.2.2.1 hd) hf (W := W) (by show 2 * 0 + _ ≤ _; omega) hlo (cap := cap) (by omega) hc hsl
  exact (K T' h' h.size X' e' rfl ex ⟨cloneOf cl, A', q1, q2⟩ E').via st
theorem range_drop (vs : List Value) (dv : Value) (i n : Nat) (hn : i + n ≤ vs.length) : ((List.range n).map fun j => vs.getD (i + j) dv) = (vs.drop i).take n := by
  apply List.ext_getElem
  · simp; omega
  · intro j h1 h2
    have h3 : i + j < vs.length := by simp at h1; omega
    simp [List.getD, List.getElem?_eq_getElem h3]
theorem Go.castY (C : Cx p s m meth c Z own nm bytes maxL ret) (X : Stand p l e R s m args below meth c T locs cells slots) {idx : Nat} {K1 : String} {a : Addr} (w : (Cond.classLink own idx K1).before a0 Z = true) (eT : T.heap = h) (F : Ins Z h a K1 true) (hd : decode bytes pc = .ok (.checkcast idx, 3)) (hp : pc + 3 = pc')
    (K : ∀ T', Stand p l e R s m args below meth c T' locs cells slots → T'.heap = h → Go p e below Fin' T' (mkF m pc' Ls (.ref a :: S))) : Go p e below Fin' T (mkF m pc Ls (.ref a :: S)) := by
  subst hp
  obtain ⟨T', X', e', st⟩ := Jvm.RoadKit.castY X C.1 C.2.1 C.2.2.1 w eT F (g := mkF m pc Ls (.ref a :: S)) rfl rfl (hb C.2.2.2.1 hd)
  exact (K T' X' e').via st
theorem Go.instY (C : Cx p s m meth c Z own nm bytes maxL ret) (X : Stand p l e R s m args below meth c T locs cells slots) {idx : Nat} {K1 : String} {a : Addr} (w : (Cond.classLink own idx K1).before a0 Z = true) (eT : T.heap = h) (F : Ins Z h a K1 true) (hd : decode bytes pc = .ok (.instanceof idx, 3)) (hp : pc + 3 = pc')
    (K : ∀ T', Stand p l e R s m args below meth c T' locs cells slots → T'.heap = h → Go p e below Fin' T' (mkF m pc' Ls (.int 1 :: S))) : Go p e below Fin' T (mkF m pc Ls (.ref a :: S)) := by
  subst hp
  obtain ⟨T', X', e', st⟩ := Jvm.RoadKit.instY X C.1 C.2.1 C.2.2.1 w eT F (g := mkF m pc Ls (.ref a :: S)) rfl rfl (hb C.2.2.2.1 hd)
  exact (K T' X' e').via st
theorem NS.rootI {O K1 : String} {n : Nat} (w : (Cond.noSuperclass O).before a0 Z = true) (wk : (Cond.instantiable K1 n).before a0 Z = true) (hn : O ≠ K1) : NS Z O K1 := by
  obtain ⟨c, k, h1, h2, h3, -, -⟩ := Cond.noSuperclass_spec w
  obtain ⟨t, -, g1, -⟩ := Cond.instantiable_spec wk
  have ne := ids_ne h1 g1 hn
  refine ⟨c, t, h1, g1, fun fuel => ?_⟩
  cases fuel with
  | zero => rfl
  | succ f => simp [Vm.isSubclassAux, ne, h2, h3]
theorem NS.noI {K0 S0 K1 : String} {n : Nat} (w : (Cond.superclass K0 S0).before a0 Z = true) (wk : (Cond.instantiable K1 n).before a0 Z = true) (N : NS Z K0 K1) (hn : K0 ≠ K1) : ∃ c t, Z.vm.findClass K0 = some c ∧ Z.vm.findClass K1 = some t ∧ Z.vm.assignable c t = false := by
  obtain ⟨c, t, h0, g0, n3⟩ := N
  obtain ⟨p, k, kp, h1, h2, h3, h4, h5, -, h7⟩ := Cond.superclass_spec h0 w
  obtain ⟨t', k', g1, g2, g3, g4, -⟩ := Cond.instantiable_spec wk
  cases g0.symm.trans g1
  have ne := ids_ne h0 g0 hn
  have gi : k'.isInterface = false := by
    cases q : k'.isInterface with
    | false => rfl
    | true => simp [q] at g4
  refine ⟨c, t, h0, g0, ?_⟩
  show Z.vm.assignableAux (255 + 1) c t = false
  simp [Vm.assignableAux, ne, h2, g2, h5, g3, gi, Vm.isSubclass, n3]
theorem Go.instNull (C : Cx p s m meth c Z own nm bytes maxL ret) (X : Stand p l e R s m args below meth c T locs cells slots) {idx : Nat}  (hd : decode bytes pc = .ok (.instanceof idx, 3)) (hp : pc + 3 = pc')
    (K : Go p e below Fin' T (mkF m pc' Ls (.int 0 :: S))) : Go p e below Fin' T (mkF m pc Ls (.null :: S)) := by
  subst hp
  exact K.via (X.instanceofNull C.1 (g := mkF m pc Ls (.null :: S)) rfl rfl (hb C.2.2.2.1 hd))
theorem Go.stC (C : Cx p s m meth c Z own nm bytes maxL ret) (X : Stand p l e R s m args below meth c T locs cells slots) {a : Addr} {k : ClassId} {vs vs' : List Value} {j : Int32} {i : Nat} {x x' : Int32} (eT : T.heap = h) (F : AL Z h a k .char vs) (hj : ¬ j < 0) (hji : j.toNatClampNeg = i) (hi : i < vs.length) (hx : (nar .char x) = x') (hvs : vs.set i (.int x') = vs') (hd : decode bytes pc = .ok (.castore, 1)) (hp : pc + 1 = pc')
    (K : ∀ T' h', Stand p l e R s m args below meth c T' (locs ++ [⟨a, i⟩]) cells slots → T'.heap = h' → Wr h h' a i (.int x') → AL Z h' a k .char vs' → Go p e below Fin' T' (mkF m pc' Ls S)) : Go p e below Fin' T (mkF m pc Ls (.int x :: .int j :: .ref a :: S)) := by
  subst hp
  subst hji hvs hx
  have F0 := F
  obtain ⟨cl, A, q1, q2⟩ := F
  obtain ⟨T', h', X', e', W', st⟩ := Jvm.RoadKit.stC X C.1 C.2.1 eT A (j := j) (fun q => q.elim hj fun y => by rw [q2] at y; simp at y; omega) (g := mkF m pc Ls (.int x :: .int j :: .ref a :: S)) rfl rfl (hb C.2.2.2.1 hd)
  exact (K T' h' X' e' W' (F0.set W')).via st
theorem Go.stB (C : Cx p s m meth c Z own nm bytes maxL ret) (X : Stand p l e R s m args below meth c T locs cells slots) {a : Addr} {k : ClassId} {vs vs' : List Value} {j : Int32} {i : Nat} {x x' : Int32} (eT : T.heap = h) (F : AL Z h a k .byte vs) (hj : ¬ j < 0) (hji : j.toNatClampNeg = i) (hi : i < vs.length) (hx : (nar .byte x) = x') (hvs : vs.set i (.int x') = vs') (hd : decode bytes pc = .ok (.bastore, 1)) (hp : pc + 1 = pc')
    (K : ∀ T' h', Stand p l e R s m args below meth c T' (locs ++ [⟨a, i⟩]) cells slots → T'.heap = h' → Wr h h' a i (.int x') → AL Z h' a k .byte vs' → Go p e below Fin' T' (mkF m pc' Ls S)) : Go p e below Fin' T (mkF m pc Ls (.int x :: .int j :: .ref a :: S)) := by
  subst hp
  subst hji hvs hx
  have F0 := F
  obtain ⟨cl, A, q1, q2⟩ := F
  obtain ⟨T', h', X', e', W', st⟩ := Jvm.RoadKit.stB X C.1 C.2.1 eT A (j := j) (fun q => q.elim hj fun y => by rw [q2] at y; simp at y; omega) (g := mkF m pc Ls (.int x :: .int j :: .ref a :: S)) rfl rfl (hb C.2.2.2.1 hd)
  exact (K T' h' X' e' W' (F0.set W')).via st
theorem AL.sto {a y : Addr} {k : ClassId} {ty : FieldType} {vs : List Value} {K1 : String} (F : AL Z h a k ty vs) (O : Ovr Z k K1) (I : Ins Z h y K1 true) : Sto Z h a (.ref y) := by
  obtain ⟨c, A, r, -⟩ := F; exact Sto.ofV A r O I
theorem Go.ldC (C : Cx p s m meth c Z own nm bytes maxL ret) (X : Stand p l e R s m args below meth c T locs cells slots) {a : Addr} {k : ClassId} {vs : List Value} {j : Int32} {i : Nat} {v : Value} (eT : T.heap = h) (F : AL Z h a k .char vs) (hj : ¬ j < 0) (hji : j.toNatClampNeg = i) (hv : vs[i]? = some v) (hd : decode bytes pc = .ok (.caload, 1)) (hp : pc + 1 = pc')
    (K : Go p e below Fin' T (mkF m pc' Ls (v :: S))) : Go p e below Fin' T (mkF m pc Ls (.int j :: .ref a :: S)) := by
  subst hp
  subst hji
  obtain ⟨cl, A, q1, q2⟩ := F
  have hlt : j.toNatClampNeg < vs.length := (List.getElem?_eq_some_iff.mp hv).1
  exact K.via fun t k => X.caload C.1 (j := j) (v := v) (by rw [eT]; exact A.1) (State.isArrayOf_alike C.2.1.alike A.2.1) A.2.2 (fun q => q.elim hj fun y => by rw [q2] at y; simp at y; omega) (by rw [q2]; simpa using hv) (g := mkF m pc Ls (.int j :: .ref a :: S)) rfl rfl (hb C.2.2.2.1 hd) t k
theorem Go.ldB (C : Cx p s m meth c Z own nm bytes maxL ret) (X : Stand p l e R s m args below meth c T locs cells slots) {a : Addr} {k : ClassId} {vs : List Value} {j : Int32} {i : Nat} {v : Value} (eT : T.heap = h) (F : AL Z h a k .byte vs) (hj : ¬ j < 0) (hji : j.toNatClampNeg = i) (hv : vs[i]? = some v) (hd : decode bytes pc = .ok (.baload, 1)) (hp : pc + 1 = pc')
    (K : Go p e below Fin' T (mkF m pc' Ls (v :: S))) : Go p e below Fin' T (mkF m pc Ls (.int j :: .ref a :: S)) := by
  subst hp
  subst hji
  obtain ⟨cl, A, q1, q2⟩ := F
  have hlt : j.toNatClampNeg < vs.length := (List.getElem?_eq_some_iff.mp hv).1
  exact K.via fun t k => X.baloadBytes C.1 (j := j) (v := v) (by rw [eT]; exact A.1) (State.isArrayOf_alike C.2.1.alike A.2.1) A.2.2 (fun q => q.elim hj fun y => by rw [q2] at y; simp at y; omega) (by rw [q2]; simpa using hv) (g := mkF m pc Ls (.int j :: .ref a :: S)) rfl rfl (hb C.2.2.2.1 hd) t k
theorem Go.ldR (C : Cx p s m meth c Z own nm bytes maxL ret) (X : Stand p l e R s m args below meth c T locs cells slots) {a : Addr} {k : ClassId} {vs : List Value} {j : Int32} {i : Nat} {v : Value} {ty : FieldType} (eT : T.heap = h) (F : AL Z h a k ty vs) (hj : ¬ j < 0) (hji : j.toNatClampNeg = i) (hv : vs[i]? = some v) (hty : ty.isReference = true) (hd : decode bytes pc = .ok (.aaload, 1)) (hp : pc + 1 = pc')
    (K : Go p e below Fin' T (mkF m pc' Ls (v :: S))) : Go p e below Fin' T (mkF m pc Ls (.int j :: .ref a :: S)) := by
  subst hp
  subst hji
  obtain ⟨cl, A, q1, q2⟩ := F
  have hlt : j.toNatClampNeg < vs.length := (List.getElem?_eq_some_iff.mp hv).1
  exact K.via fun t k => X.aaload C.1 (j := j) (v := v) (by rw [eT]; exact A.1) (State.isArrayOf_alike C.2.1.alike A.2.1) hty A.2.2 (fun q => q.elim hj fun y => by rw [q2] at y; simp at y; omega) (by rw [q2]; simpa using hv) (g := mkF m pc Ls (.int j :: .ref a :: S)) rfl rfl (hb C.2.2.2.1 hd) t k
theorem Go.alen (C : Cx p s m meth c Z own nm bytes maxL ret) (X : Stand p l e R s m args below meth c T locs cells slots) {a : Addr} {k : ClassId} {ty : FieldType} {vs : List Value} {z : Int32} (eT : T.heap = h) (F : AL Z h a k ty vs) (hz : vs.length.toInt32 = z) (hd : decode bytes pc = .ok (.arraylength, 1)) (hp : pc + 1 = pc')
    (K : Go p e below Fin' T (mkF m pc' Ls (.int z :: S))) : Go p e below Fin' T (mkF m pc Ls (.ref a :: S)) := by
  subst hp
  subst hz
  obtain ⟨cl, A, q1, q2⟩ := F
  have q3 : cl.slots.size = vs.length := by rw [q2]; simp
  refine K.via fun t k => X.arraylength C.1 (by rw [eT]; exact A.1) (State.isArrayOf_alike C.2.1.alike A.2.1) (g := mkF m pc Ls (.ref a :: S)) rfl rfl (hb C.2.2.2.1 hd) t ?_
  rw [q3]; exact k
/-! calls -/
theorem Go.initO (C : Cx p s m meth c Z own nm bytes maxL ret) (X : Stand p l e R s m args below meth c T locs cells slots) {idx : Nat} {a : Addr} (w1 : (Cond.methodLink own idx Lib.objectInit).before a0 Z = true) (w2 : (Cond.instanceMethod Lib.objectInit).before a0 Z = true) (w3 : (Cond.code Lib.objectInit ⟨#[0xb1]⟩ 1 none).before a0 Z = true) (eT : T.heap = h) (hls : Ls.size = maxL) (hf : 1 ≤ R.frames) {W : Nat} (hW : (S.map fun v => v.category).sum ≤ W) (hl : W + 12 ≤ R.locals) (hd : decode bytes pc = .ok (.invokespecial idx, 3)) (hp : pc + 3 = pc')
    (K : ∀ T', Stand p l e R s m args below meth c T' locs cells slots → T'.heap = h → Go p e below Fin' T' (mkF m pc' Ls S)) : Go p e below Fin' T (mkF m pc Ls (.ref a :: S)) := by
  subst hp
  obtain ⟨T', X', e', st⟩ := Jvm.RoadKit.initO X C.1 C.2.1 C.2.2.1 w1 w2 w3 eT (g := mkF m pc Ls (.ref a :: S)) rfl (by rw [C.2.2.2.2.1]; exact hls) rfl (hb C.2.2.2.1 hd) hf (W := W) (by show 2 * 0 + _ ≤ _; omega) hl
  exact (K T' X' e').via st
theorem Go.callS (C : Cx p s m meth c Z own nm bytes maxL ret) (X : Stand p l e R s m args below meth c T locs cells slots) {idx : Nat} {y : MethodName} {bytes' : ByteArray} {maxL' : Nat} {ret' : Option FieldType} {rm : Room} {as' : Array Value} {Q' : Option Value → Heap → List Loc → Prop} {argsL rest : List Value} {ps : List FieldType} {r : Option FieldType} {W : Nat} (w1 : (Cond.methodLink own idx y).before a0 Z = true) (w2 : (Cond.static y).before a0 Z = true) (hy : y.cls ≠ "java/lang/invoke/MethodHandle" ∧ y.cls ≠ "java/lang/invoke/VarHandle") (M : Met1 l Z y bytes' maxL' ret' rm as' h Q') (wc : (Cond.code y bytes' maxL' ret').before a0 Z = true) (wz : (Cond.initialized y.cls).before a0 Z = true) (eT : T.heap = h) (hS : S = argsL.reverse ++ rest) (has : (argsL).toArray = as') (pd : parseMethodDescriptor y.desc = some ⟨ps, r⟩) (hlen : argsL.length = ps.length) (hW : (rest.map fun v => v.category).sum ≤ W) (hls : Ls.size = maxL) (hf : rm.frames + 1 ≤ R.frames) (hlo : W + (maxL' + 11) + rm.locals ≤ R.locals) (hc : cells + rm.cells ≤ R.cells) (hs : slots + rm.slots ≤ R.slots) (hd : decode bytes pc = .ok (.invokestatic idx, 3)) (hp : pc + 3 = pc')
    (K : ∀ T' v L, Stand p l e R s m args below meth c T' (locs ++ L) (cells + rm.cells) (slots + rm.slots) → Q' v T'.heap L → Go p e below Fin' T' (mkF m pc' Ls (v.toList ++ rest))) : Go p e below Fin' T (mkF m pc Ls S) := by
  subst hp
  subst hS has
  obtain ⟨v, _, ⟨T', L', k', n'⟩, -, X', ⟨L, hQ, l', y', z'⟩, st⟩ := Jvm.LawKit.callS X C.1 (y := y) C.2.2.1 (mvT C.2.1 w1) (mvT C.2.1 w2) (mvT C.2.1 wz) (mvT C.2.1 wc) hy (backOf (W := W) (M []) C.2.1 wc wz hf hlo) (g := mkF m pc Ls (argsL.reverse ++ rest)) rfl (by show Ls.size = _; rw [C.2.2.2.2.1]; exact hls) (argsL := argsL) (rest := rest) (lenOf pd hlen) rfl (by show 2 * 0 + _ ≤ _; omega) (hb C.2.2.2.1 hd) (fun _ _ => ⟨rfl, eT, hc, hs⟩)
  dsimp only [Pt.U, Pt.locs, Pt.cells, Pt.slots] at X' l' y' z' st hQ
  subst l' y' z'
  exact (K T' v L X' hQ).via st
theorem Go.callI (C : Cx p s m meth c Z own nm bytes maxL ret) (X : Stand p l e R s m args below meth c T locs cells slots) {idx : Nat} {y : MethodName} {a : Addr} {bytes' : ByteArray} {maxL' : Nat} {ret' : Option FieldType} {rm : Room} {as' : Array Value} {Q' : Option Value → Heap → List Loc → Prop} {argsL rest : List Value} {ps : List FieldType} {r : Option FieldType} {W : Nat} (hini : y.name = "<init>") (w1 : (Cond.methodLink own idx y).before a0 Z = true) (w2 : (Cond.instanceMethod y).before a0 Z = true) (hy : y.cls ≠ "java/lang/invoke/MethodHandle" ∧ y.cls ≠ "java/lang/invoke/VarHandle") (M : Met1 l Z y bytes' maxL' ret' rm as' h Q') (wc : (Cond.code y bytes' maxL' ret').before a0 Z = true) (wz : (Cond.initialized y.cls).before a0 Z = true) (eT : T.heap = h) (hS : S = argsL.reverse ++ .ref a :: rest) (has : (.ref a :: argsL).toArray = as') (pd : parseMethodDescriptor y.desc = some ⟨ps, r⟩) (hlen : argsL.length = ps.length) (hW : (rest.map fun v => v.category).sum ≤ W) (hls : Ls.size = maxL) (hf : rm.frames + 1 ≤ R.frames) (hlo : W + (maxL' + 11) + rm.locals ≤ R.locals) (hc : cells + rm.cells ≤ R.cells) (hs : slots + rm.slots ≤ R.slots) (hr0 : ret' = none) (hd : decode bytes pc = .ok (.invokespecial idx, 3)) (hp : pc + 3 = pc')
    (K : ∀ T' v L, Stand p l e R s m args below meth c T' (locs ++ L) (cells + rm.cells) (slots + rm.slots) → Q' v T'.heap L → Go p e below Fin' T' (mkF m pc' Ls (v.toList ++ rest))) : Go p e below Fin' T (mkF m pc Ls S) := by
  subst hp
  subst hr0
  subst hS has
  obtain ⟨v, _, ⟨T', L', k', n'⟩, -, X', ⟨L, hQ, l', y', z'⟩, st⟩ := X.specialBack C.1 (y := y) hini C.2.2.1 (mvT C.2.1 w1) (mvT C.2.1 w2) (mvT C.2.1 wc) hy (backOf (W := W) (M []) C.2.1 wc wz hf hlo) (g := mkF m pc Ls (argsL.reverse ++ .ref a :: rest)) rfl (by show Ls.size = _; rw [C.2.2.2.2.1]; exact hls) (Steps.refl _) (a := a) (argsL := argsL) (rest := rest) (lenOf pd hlen) rfl (by show 2 * 0 + _ ≤ _; omega) (hb C.2.2.2.1 hd) (fun _ _ => ⟨rfl, eT, hc, hs⟩)
  dsimp only [Pt.U, Pt.locs, Pt.cells, Pt.slots] at X' l' y' z' st hQ
  subst l' y' z'
  exact (K T' v L X' hQ).via fun t k => st.trans k
theorem Go.callV (C : Cx p s m meth c Z own nm bytes maxL ret) (X : Stand p l e R s m args below meth c T locs cells slots) {idx : Nat} {y z : MethodName} {a : Addr} {K1 : String} {bytes' : ByteArray} {maxL' : Nat} {ret' : Option FieldType} {rm : Room} {as' : Array Value} {Q' : Option Value → Heap → List Loc → Prop} {argsL rest : List Value} {ps : List FieldType} {r : Option FieldType} {W : Nat} (w1 : (Cond.methodLink own idx y).before a0 Z = true) (w2 : (Cond.declares y).before a0 Z = true) (hnf : NotFace s y) (w3 : (Cond.selects K1 y z).before a0 Z = true) (w4 : (Cond.instanceMethod z).before a0 Z = true) (E : Exa Z h a K1) (hy : y.cls ≠ "java/lang/invoke/MethodHandle" ∧ y.cls ≠ "java/lang/invoke/VarHandle") (M : Met1 l Z z bytes' maxL' ret' rm as' h Q') (wc : (Cond.code z bytes' maxL' ret').before a0 Z = true) (wz : (Cond.initialized z.cls).before a0 Z = true) (eT : T.heap = h) (hS : S = argsL.reverse ++ .ref a :: rest) (has : (.ref a :: argsL).toArray = as') (pd : parseMethodDescriptor y.desc = some ⟨ps, r⟩) (hlen : argsL.length = ps.length) (hW : (rest.map fun v => v.category).sum ≤ W) (hls : Ls.size = maxL) (hf : rm.frames + 1 ≤ R.frames) (hlo : W + (maxL' + 11) + rm.locals ≤ R.locals) (hc : cells + rm.cells ≤ R.cells) (hs : slots + rm.slots ≤ R.slots) (hd : decode bytes pc = .ok (.invokevirtual idx, 3)) (hp : pc + 3 = pc')
    (K : ∀ T' v L, Stand p l e R s m args below meth c T' (locs ++ L) (cells + rm.cells) (slots + rm.slots) → Q' v T'.heap L → Go p e below Fin' T' (mkF m pc' Ls (v.toList ++ rest))) : Go p e below Fin' T (mkF m pc Ls S) := by
  subst hp
  obtain ⟨cq, kq, qa, qb, qc⟩ := isOf C.2.1 eT E
  subst hS has
  obtain ⟨v, _, ⟨T', L', k', n'⟩, -, X', ⟨L, hQ, l', y', z'⟩, st⟩ := X.virtualBack C.1 (y := y) (z := z) C.2.2.1 (mvT C.2.1 w1) (mvT C.2.1 w2) hnf (mvT C.2.1 w3) (mvT C.2.1 w4) hy (backOf (W := W) (M []) C.2.1 wc wz hf hlo) qa qc (g := mkF m pc Ls (argsL.reverse ++ .ref a :: rest)) rfl (by show Ls.size = _; rw [C.2.2.2.2.1]; exact hls) (Steps.refl _) (argsL := argsL) (rest := rest) (lenOf pd hlen) rfl (by show 2 * 0 + _ ≤ _; omega) (hb C.2.2.2.1 hd) (fun _ _ => ⟨rfl, eT, hc, hs⟩)
  dsimp only [Pt.U, Pt.locs, Pt.cells, Pt.slots] at X' l' y' z' st hQ
  subst l' y' z'
  exact (K T' v L X' hQ).via fun t k => st.trans k
theorem notFace_at {y : MethodName} {K1 : String} (hZ : Z.Warmed39 s.vm) (w : (Cond.selects K1 y y).before a0 Z = true) : NotFace s y := notFace_of_selects (args := #[]) (mvT hZ w)
end Own
end Jvm.RoadKit

namespace Jvm.RoadKit
open Sem ClassFile Op Lib Jvm.Stand Jvm.Free Jvm.LawKit
section OwnW
variable {p : Program} {l : Launch} {e : Env} {R : Room} {s : State} {m : MethodId} {args : Array Value} {below : List Frame} {meth : Method} {c : Code} {T : State} {locs : List Loc} {cells slots : Nat} {Z : State} {a0 : Array Value} {h : Heap}
variable {RC RS : Nat} {Q : Option Value → Heap → List Loc → Prop} {Fin' : Outcome → State → Prop} {own nm : String} {bytes : ByteArray} {maxL : Nat} {ret : Option FieldType} {pc pc' : Nat} {Ls Ls' : Array Slot} {S : List Value}
/-- sC is s but for its tables, which have grown as the run may let them; h: the heap now -/
def Sin (s sC : State) (h : Heap) : Prop := ∃ (vm : Vm) (k : Nat), sC = s.setVm vm ∧ s.Since vm k ∧ k ≤ h.size
theorem Sin.start (s : State) (h : Heap) : Sin s s h := ⟨s.vm, 0, rfl, (State.WarmedH.refl s).since 0, Nat.zero_le _⟩
theorem Sin.mono {sC : State} {h1 h2 : Heap} (Si : Sin s sC h1) (q : h1.size ≤ h2.size) : Sin s sC h2 := by obtain ⟨vm, k, a, b, c⟩ := Si; exact ⟨vm, k, a, b, Nat.le_trans c q⟩
theorem Cx.move {vm' : Vm} (C : Cx p s m meth c Z own nm bytes maxL ret) (hW : s.Warmed39 vm') : Cx p (s.setVm vm') m meth c Z own nm bytes maxL ret :=
  ⟨C.1, State.Warmed39.trans C.2.1 hW, by rw [show (s.setVm vm').vm = vm' from rfl, hW.alike.findClass]; exact C.2.2.1, C.2.2.2⟩
def FnW (s : State) (RC RS : Nat) (Q : Option Value → Heap → List Loc → Prop) (o : Outcome) (t : State) : Prop := ∃ v L, o = .returned v ∧ Q v t.heap L ∧ ReturnedEndW s o t L RC RS
def Met1W (l : Launch) (Z : State) (y : MethodName) (bytes : ByteArray) (maxL : Nat) (ret : Option FieldType) (rm : Room) (as' : Array Value) (h0 : Heap) (Q : Option Value → Heap → List Loc → Prop) : Prop :=
  ∀ ws : List Jvm.Cond, MetFree l y (head1 (Jvm.Cond.code y bytes maxL ret :: ws) rm) (fun a U => a = as' ∧ Z.Warmed39 U.vm ∧ U.heap = h0) (fun _ _ _ _ _ => True) (fun _ U o U' => ∃ v L, o = .returned v ∧ Q v U'.heap L ∧ ReturnedEndW U o U' L rm.cells rm.slots)
theorem Met1W.of_body {y : MethodName} {rm : Room} {as' : Array Value} {h0 : Heap} (hp : plainFor y = true) (ef : ∀ m, entryFrame m as' maxL = mkF m 0 Ls [])
    (body : ∀ {p : Program} {e : Env} {s : State} {m : MethodId} {below : List Frame} {meth : Method} {c : Code} {T : State}, Cx p s m meth c Z y.cls y.name bytes maxL ret → Stand p l e rm s m as' below meth c T [] 0 0 → T.heap = h0 → Go p e below (FnW s rm.cells rm.slots Q) T (mkF m 0 Ls [])) :
    Met1W l Z y bytes maxL ret rm as' h0 Q := by
  intro ws
  refine MetFree.of_bodySF hp hisR ?_
  intro p e s m args below meth c s₁ Bd hml0 hP hK
  obtain ⟨rfl, hZ, hh⟩ := hP
  have X0 : Stand p l e rm s m args below meth c s₁ [] 0 0 := Stand.of_body Bd
  have hlk : meth.locks = false := BodyLoose.notSynchronized Bd
  obtain ⟨s₂, o, st, r1, r2, r3⟩ := body (p := p) (e := e) (s := s) (m := m) (below := below) (meth := meth) (c := c) (T := s₁) ⟨Bd.exec, hZ, findClass_of_methodNamed Bd.named, Bd.bytes, hml0, Bd.returns, (name_of_methodNamed Bd.named Bd.method).1, hlk⟩ X0 (by rw [← hh, Bd.state]; rfl)
  exact ⟨s₂, o, castTop (ef m) st, r1, r2, r3⟩
end OwnW
end Jvm.RoadKit
namespace Jvm.RoadKit
open Sem ClassFile Op Lib Bundle Jvm.Stand Jvm.Free Jvm.LawKit
section OwnH
variable {p : Program} {l : Launch} {e : Env} {R : Room} {s : State} {m : MethodId} {args : Array Value} {below : List Frame} {meth : Method} {c : Code} {T : State} {locs : List Loc} {cells slots : Nat} {Z : State} {a0 : Array Value} {h : Heap}
variable {RC RS : Nat} {Q : Option Value → Heap → List Loc → Prop} {Fin' : Outcome → State → Prop} {own nm : String} {bytes : ByteArray} {maxL : Nat} {ret : Option FieldType} {pc pc' : Nat} {Ls Ls' : Array Slot} {S : List Value} {EL : List (String × Nat)} {sf : List Addr}
def FnH (Z : State) (EL : List (String × Nat)) (s : State) (h0 : Heap) (RC RS : Nat) (Q : Option Value → Heap → List Loc → Prop) (o : Outcome) (t : State) : Prop := ∃ v L, o = .returned v ∧ Q v t.heap L ∧ CHr Z EL s.vm h0 t.vm t.heap ∧ ReturnedEndW s o t L RC RS
def Met1H (EL : List (String × Nat)) (sf : List Addr) (l : Launch) (Z : State) (y : MethodName) (bytes : ByteArray) (maxL : Nat) (ret : Option FieldType) (rm : Room) (as' : Array Value) (h0 : Heap) (Q : Option Value → Heap → List Loc → Prop) : Prop :=
  ∀ ws : List Jvm.Cond, MetFree l y (head1 (Jvm.Cond.code y bytes maxL ret :: ws) rm) (fun a U => a = as' ∧ Z.Warmed39 U.vm ∧ U.heap = h0 ∧ CHv Z EL U.vm h0 ∧ ∀ x ∈ sf, Safe Z EL U.vm h0 x) (fun _ _ _ _ _ => True) (fun _ U o U' => ∃ v L, o = .returned v ∧ Q v U'.heap L ∧ CHr Z EL U.vm U.heap U'.vm U'.heap ∧ ReturnedEndW U o U' L rm.cells rm.slots)
theorem Met1H.of_body {y : MethodName} {rm : Room} {as' : Array Value} {h0 : Heap} (hp : plainFor y = true) (ef : ∀ m, entryFrame m as' maxL = mkF m 0 Ls [])
    (body : ∀ {p : Program} {e : Env} {s : State} {m : MethodId} {below : List Frame} {meth : Method} {c : Code} {T : State}, Cx p s m meth c Z y.cls y.name bytes maxL ret → Stand p l e rm s m as' below meth c T [] 0 0 → T.heap = h0 → CHv Z EL s.vm h0 → (∀ x ∈ sf, Safe Z EL s.vm h0 x) → Go p e below (FnH Z EL s h0 rm.cells rm.slots Q) T (mkF m 0 Ls [])) :
    Met1H EL sf l Z y bytes maxL ret rm as' h0 Q := by
  intro ws
  refine MetFree.of_bodySF hp hisR ?_
  intro p e s m args below meth c s₁ Bd hml0 hP hK
  obtain ⟨rfl, hZ, hh, hH, hS⟩ := hP
  have X0 : Stand p l e rm s m args below meth c s₁ [] 0 0 := Stand.of_body Bd
  have hlk : meth.locks = false := BodyLoose.notSynchronized Bd
  obtain ⟨s₂, o, st, r1, r2, v, L, r3, r4, r5, r6⟩ := body (p := p) (e := e) (s := s) (m := m) (below := below) (meth := meth) (c := c) (T := s₁) ⟨Bd.exec, hZ, findClass_of_methodNamed Bd.named, Bd.bytes, hml0, Bd.returns, (name_of_methodNamed Bd.named Bd.method).1, hlk⟩ X0 (by rw [← hh, Bd.state]; rfl) hH hS
  exact ⟨s₂, o, castTop (ef m) st, r1, r2, v, L, r3, r4, by rw [hh]; exact r5, r6⟩
theorem Safe.al {x : Addr} {k : ClassId} {ty : FieldType} {vs : List Value} {vm : Vm} (hal : Z.vm.Alike vm) (A : AL Z h x k ty vs) (ht : ty ≠ .byte) : Safe Z EL vm h x := by obtain ⟨c, A, -⟩ := A; exact Safe.arr hal A ht
theorem backOfH {y : MethodName} {rm : Room} {len W : Nat} {as' : Array Value} {vm0 : Vm} (hM : Met1H EL sf l Z y bytes maxL ret rm as' h Q)
    (hZ : Z.Warmed39 vm0) (wc : (Cond.code y bytes maxL ret).before a0 Z = true) (wz : (Cond.initialized y.cls).before a0 Z = true) (hf : rm.frames + 1 ≤ R.frames) (hl : W + (maxL + 11) + rm.locals ≤ R.locals) (hEL : EW Z a0 EL) (H : CHv Z EL vm0 h) (hsf : ∀ x ∈ sf, x < h.size ∧ Safe Z EL vm0 h x) :
    BackS l R p e below (s.setVm vm0) args y len W (fun A a => a = as' ∧ A.U.heap = h ∧ A.cells + rm.cells ≤ R.cells ∧ A.slots + rm.slots ≤ R.slots)
      (fun A _ v B => ∃ L, Q v B.U.heap L ∧ B.locs = A.locs ++ L ∧ B.cells = A.cells + rm.cells ∧ B.slots = A.slots + rm.slots ∧ CHr Z EL vm0 h B.U.vm B.U.heap) :=
  BackS.of_freeW (bytes := bytes) (maxL := maxL) (ret := ret) (E := fun _ first o t L k n => k = rm.cells ∧ n = rm.slots ∧ (∃ v, o = .returned v ∧ Q v t.heap L) ∧ CHr Z EL first.vm first.heap t.vm t.heap) (hM []) hf hl
    (fun m meth c A a Y hp => have hU : Z.Warmed39 A.U.vm := wtrans (s := s.setVm vm0) hZ Y.warmed
      ⟨by show (Cond.and _ .tt).before a A.U = true; rw [Cond.before_and, mv hU wc]; rfl, mv hU wc, mv hU wz, hp.2.2.1, hp.2.2.2⟩)
    (fun m meth c A a g mk Y hp => ⟨hp.1, wtrans (s := s.setVm vm0) hZ Y.warmed, hp.2.1, (CHv.at Y hZ hEL H).1, fun x hx => (CHv.at Y hZ hEL H).safe (hsf x hx).1 (hsf x hx).2⟩) (fun _ _ _ _ _ _ _ _ _ => trivial)
    (fun _ _ _ _ ⟨v, L, h1, h2, h3, h4⟩ => ⟨L, _, _, h4, rfl, rfl, ⟨v, h1, h2⟩, h3⟩)
    (fun m meth c A a g mk v t L k n Y hp _ _ ⟨e1, e2, ⟨v', e3, e4⟩, e5⟩ => by
      cases e3; subst e1 e2
      refine ⟨L, e4, rfl, rfl, rfl, (CHv.at Y hZ hEL H).trans ?_⟩
      rw [← hp.2.1]; exact e5)
theorem Go.ldcH {sC : State} (C : Cx p sC m meth c Z own nm bytes maxL ret) (X : Stand p l e R sC m args below meth c T locs cells slots) (Si : Sin s sC h) (hEL : EW Z a0 EL) (H : CHv Z EL sC.vm h) {idx n : Nat} {text : String} {vs : List Value} {z : Int32} (w : (Cond.stringLink own idx text).before a0 Z = true) (wS : ∀ a ∈ Bundle.stringAtoms, a.before a0 Z = true) (eT : T.heap = h) (hmem : (own, idx) ∈ EL) (ht : (∀ c ∈ text.toList, c.toNat < 256) ∧ text.toList.map (fun c => Value.int (Jvm.Lit.byteI c.toNat.toUInt16)) = vs) (hz : ¬ z < 0) (hzl : z.toNatClampNeg = vs.length) (hn : 4 * text.toList.length ≤ n) (hbig : n ≤ 536870912) (hc : cells + 2 ≤ R.cells) (hl : slots + (n + 4) ≤ R.slots) (hd : decode bytes pc = .ok (.ldc idx, 2)) (hp : pc + 2 = pc')
    (K : ∀ T' h' a sC' b k, Cx p sC' m meth c Z own nm bytes maxL ret → Stand p l e R sC' m args below meth c T' locs (cells + 2) (slots + (n + 4)) → T'.heap = h' → Sin s sC' h' → Ext h h' → CHr Z EL sC.vm h sC'.vm h' → Exa Z h' a "java/lang/String" → Fld Z h' a "java/lang/String" "coder" "B" (.int 0) → Fld Z h' a "java/lang/String" "value" "[B" (.ref b) → AL Z h' b k .byte vs → (∀ x, Safe Z EL sC'.vm h' x → x ≠ a ∧ x ≠ b) → Go p e below Fin' T' (mkF m pc' Ls (.ref a :: S))) : Go p e below Fin' T (mkF m pc Ls S) := by
  subst hp
  obtain ⟨vm0, k0, rfl, hS, hk⟩ := Si
  obtain ⟨a, T', h', k1, b, k, X', e', E', hS', hk', hW', hf', p1, p2, p3, p4, -, -, hR, -, hne, st⟩ := Jvm.RoadKit.ldcCH X C.1 C.2.1 C.2.2.1 w wS eT hS hk hEL hmem H ht hz hzl (g := mkF m pc Ls S) rfl (hb C.2.2.2.1 hd) hn hbig hc hl
  exact (K T' h' a (s.setVm T'.vm) b k ⟨C.1, hW', hf', C.2.2.2⟩ X' e' ⟨T'.vm, k1, rfl, hS', hk'⟩ E' hR p1 p2 p3 (AL.of_arv p4 hzl) hne).via st
theorem Go.callIH {sC : State} (C : Cx p sC m meth c Z own nm bytes maxL ret) (X : Stand p l e R sC m args below meth c T locs cells slots) (Si : Sin s sC h) (hEL : EW Z a0 EL) (H : CHv Z EL sC.vm h) {idx : Nat} {y : MethodName} {a : Addr} {bytes' : ByteArray} {maxL' : Nat} {ret' : Option FieldType} {rm : Room} {as' : Array Value} {Q' : Option Value → Heap → List Loc → Prop} {argsL rest : List Value} {ps : List FieldType} {r : Option FieldType} {W : Nat} (hini : y.name = "<init>") (w1 : (Cond.methodLink own idx y).before a0 Z = true) (w2 : (Cond.instanceMethod y).before a0 Z = true) (hy : y.cls ≠ "java/lang/invoke/MethodHandle" ∧ y.cls ≠ "java/lang/invoke/VarHandle") (hsf : ∀ x ∈ sf, x < h.size ∧ Safe Z EL sC.vm h x) (M : Met1H EL sf l Z y bytes' maxL' ret' rm as' h Q') (wc : (Cond.code y bytes' maxL' ret').before a0 Z = true) (wz : (Cond.initialized y.cls).before a0 Z = true) (eT : T.heap = h) (hS : S = argsL.reverse ++ .ref a :: rest) (has : (.ref a :: argsL).toArray = as') (pd : parseMethodDescriptor y.desc = some ⟨ps, r⟩) (hlen : argsL.length = ps.length) (hW : (rest.map fun v => v.category).sum ≤ W) (hls : Ls.size = maxL) (hf : rm.frames + 1 ≤ R.frames) (hlo : W + (maxL' + 11) + rm.locals ≤ R.locals) (hc : cells + rm.cells ≤ R.cells) (hs : slots + rm.slots ≤ R.slots) (hr0 : ret' = none) (hd : decode bytes pc = .ok (.invokespecial idx, 3)) (hp : pc + 3 = pc')
    (K : ∀ T' v L sC', Cx p sC' m meth c Z own nm bytes maxL ret → Stand p l e R sC' m args below meth c T' (locs ++ L) (cells + rm.cells) (slots + rm.slots) → Sin s sC' T'.heap → CHr Z EL sC.vm h sC'.vm T'.heap → Q' v T'.heap L → Go p e below Fin' T' (mkF m pc' Ls (v.toList ++ rest))) : Go p e below Fin' T (mkF m pc Ls S) := by
  subst hp
  subst hr0
  subst hS has
  obtain ⟨vm0, k0, rfl, hS0, hk0⟩ := Si
  obtain ⟨v, _, ⟨T', L', k', n'⟩, -, X', hS2, hg2, ⟨L, hQ, l', y', z', hR⟩, st⟩ := X.specialBackS C.1 (y := y) hini C.2.2.1 (mvT C.2.1 w1) (mvT C.2.1 w2) (mvT C.2.1 wc) hy (backOfH (s := s) (vm0 := vm0) (W := W) M C.2.1 wc wz hf hlo hEL H hsf) (g := mkF m pc Ls (argsL.reverse ++ .ref a :: rest)) rfl (by show Ls.size = _; rw [C.2.2.2.2.1]; exact hls) (Steps.refl _) (a := a) (argsL := argsL) (rest := rest) (lenOf pd hlen) rfl (by show 2 * 0 + _ ≤ _; omega) (hb C.2.2.2.1 hd) (fun _ _ => ⟨rfl, eT, hc, hs⟩)
  dsimp only [Pt.U, Pt.locs, Pt.cells, Pt.slots] at X' hS2 hg2 l' y' z' st hQ hR
  subst l' y' z'
  exact (K T' v L (s.setVm T'.vm) (C.move hS2.1) X' ⟨T'.vm, T'.heap.size, rfl, foldS hS0 (by rw [eT]; exact hk0) hS2 hg2, Nat.le_refl _⟩ hR hQ).via fun t k => st.trans k
theorem Go.retVH {sC : State} (C : Cx p sC m meth c Z own nm bytes maxL ret) (X : Stand p l e R sC m args below meth c T locs cells slots) {h0 : Heap} (Si : Sin s sC T.heap) (hEL : EW Z a0 EL) (H : CHr Z EL s.vm h0 sC.vm T.heap)  (hr : ret = none) (hd : decode bytes pc = .ok (.return_, 1))  (hq : Q none T.heap locs) (hc : cells ≤ RC) (hs : slots ≤ RS) : Go p e below (FnH Z EL s h0 RC RS Q) T (mkF m pc Ls []) := by
  have hret := C.2.2.2.2.2.1
  have hlk := C.2.2.2.2.2.2.2
  rw [hr] at hret
  obtain ⟨vm0, k0, rfl, hS0, hk0⟩ := Si
  have hR := H.trans (CHv.at X C.2.1 hEL H.1)
  obtain ⟨fs, hl, hrun, hended, hW⟩ := X.leaveW hS0 hk0 (v := none) (fun h => by first | rfl | (rw [hret] at h; cases h)) hlk
  exact ⟨_, _, X.returnOut C.1 hret (hb C.2.2.2.1 hd) hl, hrun, hended, _, _, rfl, hq, hR, hW.1, hW.2.1, hW.2.2.1, hW.2.2.2.mono hc hs⟩
theorem Go.retNH {sC : State} (C : Cx p sC m meth c Z own nm bytes maxL ret) (X : Stand p l e R sC m args below meth c T locs cells slots) {h0 : Heap} (Si : Sin s sC T.heap) (hEL : EW Z a0 EL) (H : CHr Z EL s.vm h0 sC.vm T.heap) {t : FieldType} {z : Int32} (hr : ret = some t) (hd : decode bytes pc = .ok (.ireturn, 1)) (ht : t = .boolean ∨ t = .byte ∨ t = .char ∨ t = .short) (hq : Q (some (.int (nar t z))) T.heap locs) (hc : cells ≤ RC) (hs : slots ≤ RS) : Go p e below (FnH Z EL s h0 RC RS Q) T (mkF m pc Ls (.int z :: S)) := by
  have hret := C.2.2.2.2.2.1
  have hlk := C.2.2.2.2.2.2.2
  rw [hr] at hret
  obtain ⟨vm0, k0, rfl, hS0, hk0⟩ := Si
  have hR := H.trans (CHv.at X C.2.1 hEL H.1)
  obtain ⟨fs, hl, hrun, hended, hW⟩ := X.leaveW hS0 hk0 (v := (some (.int (nar t z)))) (fun h => by first | rfl | (rw [hret] at h; cases h)) hlk
  exact ⟨_, _, Jvm.RoadKit.retN X C.1 hret ht (hb C.2.2.2.1 hd) hl, hrun, hended, _, _, rfl, hq, hR, hW.1, hW.2.1, hW.2.2.1, hW.2.2.2.mono hc hs⟩
end OwnH
end Jvm.RoadKit
namespace Jvm.Pilot.@@N@@
open Jvm Jvm.ClassFile Sem Op Lib Jvm.Free Jvm.Stand Jvm.LawKit Jvm.RoadKit Bundle Jvm.Pilot.@@N@@.Jvm.D
theorem tw {a0 : Array Value} {Z : State} (hw : ∀ d ∈ tables_1, d.before a0 Z = true) (i : Nat) {d : Cond} (h : tables_1[i]? = some d) : d.before a0 Z = true := hw d (List.mem_of_getElem? h)
set_option maxRecDepth 65536
set_option maxHeartbeats 40000000
abbrev mN0 : MethodName := ⟨"com/example/bailiwick/bailiwick/Source", "named", "(Ljava/lang/String;)Lcom/example/bailiwick/bailiwick/Source;"⟩
abbrev mN1 : MethodName := ⟨"com/example/bailiwick/bailiwick/Source", "values", "()[Lcom/example/bailiwick/bailiwick/Source;"⟩
abbrev mN2 : MethodName := ⟨"com/example/bailiwick/bailiwick/SourceNamedPinLaw", "da", "()[C"⟩
abbrev mN3 : MethodName := ⟨"com/example/bailiwick/bailiwick/SourceNamedPinLaw", "daLonger", "(C)[C"⟩
abbrev mN4 : MethodName := ⟨"com/example/bailiwick/bailiwick/SourceNamedPinLaw", "daShorter", "()[C"⟩
abbrev mN5 : MethodName := ⟨"com/example/bailiwick/bailiwick/SourceNamedPinLaw", "le", "()[C"⟩
abbrev mN6 : MethodName := ⟨"com/example/bailiwick/bailiwick/SourceNamedPinLaw", "leLonger", "(C)[C"⟩
abbrev mN7 : MethodName := ⟨"com/example/bailiwick/bailiwick/SourceNamedPinLaw", "leShorter", "()[C"⟩
abbrev mN8 : MethodName := ⟨"java/lang/String", "<init>", "([C)V"⟩
abbrev mN9 : MethodName := ⟨"java/lang/String", "<init>", "([CIILjava/lang/Void;)V"⟩
abbrev mN10 : MethodName := ⟨"java/lang/String", "equals", "(Ljava/lang/Object;)Z"⟩
abbrev mN11 : MethodName := ⟨"java/lang/StringLatin1", "equals", "([B[B)Z"⟩
abbrev mN12 : MethodName := ⟨"java/lang/StringUTF16", "coderFromArrayLen", "([BI)B"⟩
abbrev mN13 : MethodName := ⟨"java/lang/StringUTF16", "compress", "([CII)[B"⟩
abbrev mN14 : MethodName := ⟨"java/lang/StringUTF16", "compress", "([CI[BII)I"⟩
abbrev mN15 : MethodName := ⟨"java/lang/StringUTF16", "getChar", "([BI)C"⟩
abbrev mN16 : MethodName := ⟨"java/lang/StringUTF16", "newBytesFor", "(I)[B"⟩
abbrev mN17 : MethodName := ⟨"java/lang/StringUTF16", "newBytesLength", "(I)I"⟩
abbrev mN18 : MethodName := ⟨"java/lang/StringUTF16", "putChar", "([BII)V"⟩
abbrev mN19 : MethodName := ⟨"java/lang/StringUTF16", "toBytes", "([CII)[B"⟩
theorem n32_int {n : Nat} (h : n < 2 ^ 31) : n.toInt32.toInt = n := len_toInt h
theorem n32_nat {n : Nat} (h : n < 2 ^ 31) : n.toInt32.toNatClampNeg = n := by simp only [Int32.toNatClampNeg, len_toInt h]; omega
theorem n32_neg {n : Nat} (h : n < 2 ^ 31) : ¬ n.toInt32 < 0 := by simp only [Int32.lt_iff_toInt_lt, len_toInt h, Int32.reduceToInt]; omega
theorem n32_lt {n k : Nat} (hn : n < 2 ^ 31) (hk : k < 2 ^ 31) : n.toInt32 < k.toInt32 ↔ n < k := by rw [Int32.lt_iff_toInt_lt, len_toInt hn, len_toInt hk]; omega
theorem n32_succ (n : Nat) : n.toInt32 + (1 : Int32) = (n + 1).toInt32 := (Int32.ofNat_add n 1).symm
theorem n32_eq {n k : Nat} (hn : n < 2 ^ 31) (hk : k < 2 ^ 31) : n.toInt32 = k.toInt32 ↔ n = k := by rw [← Int32.toInt_inj, len_toInt hn, len_toInt hk]; omega
theorem nar_byte8 (x : Int32) : nar .byte x.toInt8.toInt32 = x.toInt8.toInt32 := by simp [nar]
def by8 (cs : List Int32) : List Value := cs.map fun c => Value.int c.toInt8.toInt32
def ch16 (cs : List Int32) : List Value := cs.map Value.int
theorem by8_len (cs : List Int32) : (by8 cs).length = cs.length := by simp [by8]
theorem ch16_len (cs : List Int32) : (ch16 cs).length = cs.length := by simp [ch16]

theorem d6_0 : decode jdk_52_method_21_code 0 = .ok (.iconst 0, 1) := by decide +kernel
theorem d6_1 : decode jdk_52_method_21_code 1 = .ok (.istore 5, 2) := by decide +kernel
theorem d6_3 : decode jdk_52_method_21_code 3 = .ok (.iload 5, 2) := by decide +kernel
theorem d6_5 : decode jdk_52_method_21_code 5 = .ok (.iload 4, 2) := by decide +kernel
theorem d6_7 : decode jdk_52_method_21_code 7 = .ok (.if_icmp .ge 37, 3) := by decide +kernel
theorem d6_10 : decode jdk_52_method_21_code 10 = .ok (.aload_n 0, 1) := by decide +kernel
theorem d6_11 : decode jdk_52_method_21_code 11 = .ok (.iload_n 1, 1) := by decide +kernel
theorem d6_12 : decode jdk_52_method_21_code 12 = .ok (.caload, 1) := by decide +kernel
theorem d6_13 : decode jdk_52_method_21_code 13 = .ok (.istore 6, 2) := by decide +kernel
theorem d6_15 : decode jdk_52_method_21_code 15 = .ok (.iload 6, 2) := by decide +kernel
theorem d6_17 : decode jdk_52_method_21_code 17 = .ok (.sipush 255, 3) := by decide +kernel
theorem d6_20 : decode jdk_52_method_21_code 20 = .ok (.if_icmp .le 6, 3) := by decide +kernel
theorem d6_23 : decode jdk_52_method_21_code 23 = .ok (.iload 5, 2) := by decide +kernel
theorem d6_25 : decode jdk_52_method_21_code 25 = .ok (.ireturn, 1) := by decide +kernel
theorem d6_26 : decode jdk_52_method_21_code 26 = .ok (.aload_n 2, 1) := by decide +kernel
theorem d6_27 : decode jdk_52_method_21_code 27 = .ok (.iload_n 3, 1) := by decide +kernel
theorem d6_28 : decode jdk_52_method_21_code 28 = .ok (.iload 6, 2) := by decide +kernel
theorem d6_30 : decode jdk_52_method_21_code 30 = .ok (.i2b, 1) := by decide +kernel
theorem d6_31 : decode jdk_52_method_21_code 31 = .ok (.bastore, 1) := by decide +kernel
theorem d6_32 : decode jdk_52_method_21_code 32 = .ok (.iinc 1 1, 3) := by decide +kernel
theorem d6_35 : decode jdk_52_method_21_code 35 = .ok (.iinc 3 1, 3) := by decide +kernel
theorem d6_38 : decode jdk_52_method_21_code 38 = .ok (.iinc 5 1, 3) := by decide +kernel
theorem d6_41 : decode jdk_52_method_21_code 41 = .ok (.goto (-38), 3) := by decide +kernel
theorem d6_44 : decode jdk_52_method_21_code 44 = .ok (.iload 4, 2) := by decide +kernel
theorem d6_46 : decode jdk_52_method_21_code 46 = .ok (.ireturn, 1) := by decide +kernel
theorem lp_compress {p : Program} {l : Launch} {e : Env} {R : Room} {s : State} {m : MethodId} {args : Array Value} {below : List Frame} {meth : Method} {c : Code} {Z : State} {Fin' : Outcome → State → Prop} {a b : Addr} {ka kb : ClassId} {cs : List Int32} (C : Cx p s m meth c Z "java/lang/StringUTF16" "compress" jdk_52_method_21_code 7 (some .int)) (hcs : ∀ x ∈ cs, 0 ≤ x.toInt ∧ x.toInt ≤ 255) (hl : cs.length < 2 ^ 31) (hne : a ≠ b) (hnb : Z.heap.size ≤ b) :
    ∀ (k n : Nat) (T : State) (locs : List Loc) (cells slots : Nat) (h : Heap) (s6 : Slot), n + k = cs.length → One s6 → Stand p l e R s m args below meth c T locs cells slots → T.heap = h → AL Z h a ka .char (ch16 cs) → AL Z h b kb .byte (by8 (cs.take n) ++ List.replicate k (.int 0)) → Fr Z.heap.size locs →
      (∀ (T' : State) (locs' : List Loc) (h' : Heap) (s6' : Slot), Stand p l e R s m args below meth c T' locs' cells slots → T'.heap = h' → Keep h h' [b] → AL Z h' b kb .byte (by8 cs) → Fr Z.heap.size locs' → Go p e below Fin' T' (mkF m 44 #[.val (.ref a), .val (.int cs.length.toInt32), .val (.ref b), .val (.int cs.length.toInt32), .val (.int cs.length.toInt32), .val (.int cs.length.toInt32), s6'] [])) →
      Go p e below Fin' T (mkF m 3 #[.val (.ref a), .val (.int n.toInt32), .val (.ref b), .val (.int n.toInt32), .val (.int cs.length.toInt32), .val (.int n.toInt32), s6] []) := by
  intro k
  induction k with
  | zero =>
    intro n T locs cells slots h s6 hn h6 X e0 A B N K
    have hn' : n = cs.length := by omega
    subst hn'
    refine Go.iload (pc' := 5) C X d6_3 rfl rfl ?_
    refine Go.iload (pc' := 7) C X d6_5 rfl rfl ?_
    refine Go.icmpYes (pc' := 44) C X d6_7 (flt (x := cs.length.toInt32) (y := cs.length.toInt32) (fun q => absurd ((n32_lt hl hl).mp q) (Nat.lt_irrefl _))).2.1 (by decide) (by decide) ?_
    exact K T locs h s6 X e0 (Keep.refl _ _) (by simpa using B) N
  | succ k ih =>
    intro n T locs cells slots h s6 hn h6 X e0 A B N K
    have hlt : n < cs.length := by omega
    have hn31 : n < 2 ^ 31 := by omega
    obtain ⟨x, hx⟩ : ∃ x, x = cs[n] := ⟨_, rfl⟩
    have hxm : x ∈ cs := hx ▸ List.getElem_mem hlt
    have hb := hcs x hxm
    have hget : (ch16 cs)[n]? = some (.int x) := by simp [ch16, hx, hlt]
    refine Go.iload (pc' := 5) C X d6_3 rfl rfl ?_
    refine Go.iload (pc' := 7) C X d6_5 rfl rfl ?_
    refine Go.icmpNo (pc' := 10) C X d6_7 (tlt (x := n.toInt32) (y := cs.length.toInt32) ((n32_lt hn31 hl).mpr hlt)).2.1 rfl ?_
    refine Go.aloadN (pc' := 11) C X d6_10 rfl rfl rfl ?_
    refine Go.iloadN (pc' := 12) C X d6_11 rfl rfl ?_
    refine Go.ldC (i := n) (v := .int x) (pc' := 13) C X e0 A (n32_neg hn31) (n32_nat hn31) hget d6_12 rfl ?_
    refine Go.istore (Ls' := #[.val (.ref a), .val (.int n.toInt32), .val (.ref b), .val (.int n.toInt32), .val (.int cs.length.toInt32), .val (.int n.toInt32), .val (.int x)]) (pc' := 15) C X d6_13 (XS.store1 (o := s6) rfl h6 rfl) rfl ?_
    refine Go.iload (pc' := 17) C X d6_15 rfl rfl ?_
    refine Go.sipush (z := (255 : Int32)) (pc' := 20) C X d6_17 rfl rfl ?_
    refine Go.icmpYes (pc' := 26) C X d6_20 (flt (x := (255 : Int32)) (y := x) (fun q => absurd (Int32.lt_iff_toInt_lt.mp q) (by simp only [Int32.reduceToInt]; omega))).2.2.2 (by decide) (by decide) ?_
    refine Go.aloadN (pc' := 27) C X d6_26 rfl rfl rfl ?_
    refine Go.iloadN (pc' := 28) C X d6_27 rfl rfl ?_
    refine Go.iload (pc' := 30) C X d6_28 rfl rfl ?_
    refine Go.i2b (pc' := 31) C X d6_30 rfl ?_
    refine Go.stB (i := n) (x' := x.toInt8.toInt32) (vs' := by8 (cs.take (n + 1)) ++ List.replicate k (.int 0)) (pc' := 32) C X e0 B (n32_neg hn31) (n32_nat hn31) (by simp [by8]; omega) (nar_byte8 x) ?_ d6_31 rfl ?_
    · rw [List.take_add_one, List.getElem?_eq_getElem hlt, ← hx]
      simp only [by8, List.map_append, Option.toList, List.map_cons, List.map_nil, List.replicate_succ, List.append_assoc, List.cons_append, List.nil_append]
      rw [List.set_append_right _ _ (by simp; omega)]
      simp [Nat.min_eq_left (Nat.le_of_lt hlt)]
    · intro T1 h1 X1 e1 W1 B1
      have N1 := Fr.snoc X1 N hnb
      refine Go.iinc (Ls' := #[.val (.ref a), .val (.int (n + 1).toInt32), .val (.ref b), .val (.int n.toInt32), .val (.int cs.length.toInt32), .val (.int n.toInt32), .val (.int x)]) (z := (1 : Int32)) (pc' := 35) C X1 d6_32 rfl rfl (by rw [n32_succ]; rfl) rfl ?_
      refine Go.iinc (Ls' := #[.val (.ref a), .val (.int (n + 1).toInt32), .val (.ref b), .val (.int (n + 1).toInt32), .val (.int cs.length.toInt32), .val (.int n.toInt32), .val (.int x)]) (z := (1 : Int32)) (pc' := 38) C X1 d6_35 rfl rfl (by rw [n32_succ]; rfl) rfl ?_
      refine Go.iinc (Ls' := #[.val (.ref a), .val (.int (n + 1).toInt32), .val (.ref b), .val (.int (n + 1).toInt32), .val (.int cs.length.toInt32), .val (.int (n + 1).toInt32), .val (.int x)]) (z := (1 : Int32)) (pc' := 41) C X1 d6_38 rfl rfl (by rw [n32_succ]; rfl) rfl ?_
      refine Go.goto (pc' := 3) C X1 d6_41 (by decide) (by decide) ?_
      refine ih (n + 1) T1 _ cells slots h1 (.val (.int x)) (by omega) (One.val rfl) X1 e1 (AL.other W1 A hne) B1 N1 ?_
      intro T' locs' h' s6' X' e' K' B' N'
      exact K T' locs' h' s6' X' e' (((Keep.refl h [b]).wr W1 (Or.inl (by simp))).trans K' (allS (Or.inl (by simp)) all0)) B' N'
theorem pf_6 : plainFor mN14 = true := plainFor_of_name (by first | (simp [plainName, overriddenIn]; done) | decide +kernel)
def Q_cmpI (Z : State) (a : Addr) (b : Addr) (ka : ClassId) (kb : ClassId) (cs : List Int32) (h0 : Heap) (rv : Option Value) (h : Heap) (L : List Loc) : Prop := rv = some (.int cs.length.toInt32) ∧ Fr Z.heap.size L ∧ Keep h0 h [b] ∧ AL Z h b kb .byte (by8 cs)
theorem rm_cmpI (l : Launch) (Z : State) (a0 : Array Value) (hw : ∀ d ∈ tables_1, d.before a0 Z = true) (a : Addr) (b : Addr) (ka : ClassId) (kb : ClassId) (cs : List Int32) (h0 : Heap) (O0 : Ext Z.heap h0) (A0 : AL Z h0 a ka .char (ch16 cs)) (B0 : AL Z h0 b kb .byte (List.replicate cs.length (.int 0))) (hcs : ∀ x ∈ cs, 0 ≤ x.toInt ∧ x.toInt ≤ 255) (hl : cs.length < 2 ^ 31) (hne : a ≠ b) (hnb : Z.heap.size ≤ b) :
    Met1 l Z mN14 jdk_52_method_21_code 7 (some .int) ({ frames := 0, cells := 0, slots := 0, locals := 0 } : Room) #[(.ref a), (.int (0 : Int32)), (.ref b), (.int (0 : Int32)), (.int cs.length.toInt32)] h0 (Q_cmpI Z a b ka kb cs h0) := by
  refine Met1.of_body (Ls := #[.val (.ref a), .val (.int (0 : Int32)), .val (.ref b), .val (.int (0 : Int32)), .val (.int cs.length.toInt32), .unset, .unset]) pf_6 (fun m => by first | (simp [entryFrame, mkF, argsToLocals, Value.category]; done) | rfl) ?_
  intro p e s m below meth c T0 C X0 e0
  have N0 : Fr Z.heap.size [] := Fr.nil _
  refine Go.iconst (z := (0 : Int32)) (pc' := 1) C X0 d6_0 rfl rfl ?_
  refine Go.istore (Ls' := #[.val (.ref a), .val (.int (0 : Int32)), .val (.ref b), .val (.int (0 : Int32)), .val (.int cs.length.toInt32), .val (.int (0 : Int32)), .unset]) (pc' := 3) C X0 d6_1 rfl rfl ?_
  refine lp_compress C hcs hl hne hnb cs.length 0 T0 [] 0 0 h0 .unset (by omega) One.u X0 e0 A0 (by simpa [by8] using B0) N0 ?_
  intro T' locs' h' s6' X' e' K' B' N'
  refine Go.iload (pc' := 46) C X' d6_44 rfl rfl ?_
  exact Go.retI C X' rfl d6_46 (by rw [e']; exact ⟨rfl, N', K', B'⟩) (by decide) (by decide)
theorem pd_0 : parseMethodDescriptor "([CI[BII)I" = some ⟨[(.array .char), .int, (.array .byte), .int, .int], some .int⟩ := by decide +kernel
theorem pf_5 : plainFor mN13 = true := plainFor_of_name (by first | (simp [plainName, overriddenIn]; done) | decide +kernel)
theorem d5_0 : decode jdk_52_method_16_code 0 = .ok (.iload_n 2, 1) := by decide +kernel
theorem d5_1 : decode jdk_52_method_16_code 1 = .ok (.newarray .byte, 2) := by decide +kernel
theorem d5_3 : decode jdk_52_method_16_code 3 = .ok (.astore_n 3, 1) := by decide +kernel
theorem d5_4 : decode jdk_52_method_16_code 4 = .ok (.aload_n 0, 1) := by decide +kernel
theorem d5_5 : decode jdk_52_method_16_code 5 = .ok (.iload_n 1, 1) := by decide +kernel
theorem d5_6 : decode jdk_52_method_16_code 6 = .ok (.aload_n 3, 1) := by decide +kernel
theorem d5_7 : decode jdk_52_method_16_code 7 = .ok (.iconst 0, 1) := by decide +kernel
theorem d5_8 : decode jdk_52_method_16_code 8 = .ok (.iload_n 2, 1) := by decide +kernel
theorem d5_9 : decode jdk_52_method_16_code 9 = .ok (.invokestatic 115, 3) := by decide +kernel
theorem d5_12 : decode jdk_52_method_16_code 12 = .ok (.istore 4, 2) := by decide +kernel
theorem d5_14 : decode jdk_52_method_16_code 14 = .ok (.iload 4, 2) := by decide +kernel
theorem d5_16 : decode jdk_52_method_16_code 16 = .ok (.iload_n 2, 1) := by decide +kernel
theorem d5_17 : decode jdk_52_method_16_code 17 = .ok (.if_icmp .eq 40, 3) := by decide +kernel
theorem d5_57 : decode jdk_52_method_16_code 57 = .ok (.aload_n 3, 1) := by decide +kernel
theorem d5_58 : decode jdk_52_method_16_code 58 = .ok (.areturn, 1) := by decide +kernel
def Q_cmpO (Z : State) (a : Addr) (ka : ClassId) (cs : List Int32) (h0 : Heap) (rv : Option Value) (h : Heap) (L : List Loc) : Prop := ∃ b : Addr, ∃ kb : ClassId, rv = some (.ref b) ∧ Fr Z.heap.size L ∧ Keep h0 h [] ∧ h0.size ≤ b ∧ AL Z h b kb .byte (by8 cs)
theorem rm_cmpO (l : Launch) (Z : State) (a0 : Array Value) (hw : ∀ d ∈ tables_1, d.before a0 Z = true) (a : Addr) (ka : ClassId) (cs : List Int32) (h0 : Heap) (O0 : Ext Z.heap h0) (A0 : AL Z h0 a ka .char (ch16 cs)) (hcs : ∀ x ∈ cs, 0 ≤ x.toInt ∧ x.toInt ≤ 255) (hl : cs.length < 2 ^ 31) (hN : cs.length ≤ 18) :
    Met1 l Z mN13 jdk_52_method_16_code 6 (some (.array .byte)) ({ frames := 1, cells := 1, slots := 18, locals := 18 } : Room) #[(.ref a), (.int (0 : Int32)), (.int cs.length.toInt32)] h0 (Q_cmpO Z a ka cs h0) := by
  refine Met1.of_body (Ls := #[.val (.ref a), .val (.int (0 : Int32)), .val (.int cs.length.toInt32), .unset, .unset, .unset]) pf_5 (fun m => by first | (simp [entryFrame, mkF, argsToLocals, Value.category]; done) | rfl) ?_
  intro p e s m below meth c T0 C X0 e0
  have N0 : Fr Z.heap.size [] := Fr.nil _
  refine Go.iloadN (pc' := 1) C X0 d5_0 rfl rfl ?_
  refine Go.newP (aty := .byte) (cap := 18) (vs := (List.replicate cs.length (.int 0))) (ad := "[B") (pc' := 3) C X0 (by decide) (tw hw 24 rfl) e0 (n32_neg hl) (by rw [n32_nat hl]; exact hN) (by decide) (by decide) (by decide) (by rw [n32_nat hl]; rfl) d5_1 rfl ?_
  intro T101 h101 b101 k101 X101 e101 g101 E101 A101 Ea101
  have n_b101 : Z.heap.size ≤ b101 := Nat.le_trans O0.1 (Nat.le_of_eq g101.symm)
  have z_b101 : h0.size ≤ b101 := Nat.le_trans (Nat.le_refl _) (Nat.le_of_eq g101.symm)
  have A101 : AL Z h101 b101 k101 .byte (List.replicate cs.length (.int 0)) := A101
  refine Go.astoreN (Ls' := #[.val (.ref a), .val (.int (0 : Int32)), .val (.int cs.length.toInt32), .val (.ref b101), .unset, .unset]) (pc' := 4) C X101 d5_3 rfl rfl rfl ?_
  refine Go.aloadN (pc' := 5) C X101 d5_4 rfl rfl rfl ?_
  refine Go.iloadN (pc' := 6) C X101 d5_5 rfl rfl ?_
  refine Go.aloadN (pc' := 7) C X101 d5_6 rfl rfl rfl ?_
  refine Go.iconst (z := (0 : Int32)) (pc' := 8) C X101 d5_7 rfl rfl ?_
  refine Go.iloadN (pc' := 9) C X101 d5_8 rfl rfl ?_
  have c103 : AL Z h101 a ka .char (ch16 cs) := (AL.ext E101 A0)
  have ne104 : a ≠ b101 := Nat.ne_of_lt (Nat.lt_of_lt_of_le A0.lt (Nat.le_trans (Nat.le_refl _) (Nat.le_of_eq g101.symm)))
  have O105 : Ext Z.heap h101 := (Ext.trans O0 E101)
  refine Go.callS (y := mN14) (pc' := 12) C X101 (tw hw 25 rfl) (tw hw 26 rfl) (by decide) (rm_cmpI l Z a0 hw a b101 ka k101 cs h101 O105 c103 A101 hcs hl ne104 n_b101) (tw hw 27 rfl) (tw hw 22 rfl) e101 (argsL := [(.ref a), (.int (0 : Int32)), (.ref b101), (.int (0 : Int32)), (.int cs.length.toInt32)]) (rest := []) (W := 0) rfl rfl pd_0 rfl (Nat.le_of_eq rfl) rfl (by decide) (by decide) (by decide) (by decide) d5_9 rfl ?_
  intro T102 v102 L102 X102 q102
  obtain ⟨rfl, N102q, K102, P102_0⟩ := q102
  have N102 := Fr.app N0 N102q
  refine Go.istore (Ls' := #[.val (.ref a), .val (.int (0 : Int32)), .val (.int cs.length.toInt32), .val (.ref b101), .val (.int cs.length.toInt32), .unset]) (pc' := 14) C X102 d5_12 rfl rfl ?_
  refine Go.iload (pc' := 16) C X102 d5_14 rfl rfl ?_
  refine Go.iloadN (pc' := 17) C X102 d5_16 rfl rfl ?_
  refine Go.icmpYes (pc' := 57) C X102 d5_17 (teq (x := cs.length.toInt32) (y := cs.length.toInt32) rfl).1 (by decide) (by decide) ?_
  refine Go.aloadN (pc' := 58) C X102 d5_57 rfl rfl rfl ?_
  have K107 : Keep h0 T102.heap [] := (((Keep.refl h0 []).ext E101).trans K102 (allS (Or.inr z_b101) all0))
  exact Go.retA C X102 rfl d5_58 rfl rfl rfl ⟨b101, k101, rfl, N102, K107, z_b101, P102_0⟩ (by decide) (by decide)
theorem pf_7 : plainFor mN12 = true := plainFor_of_name (by first | (simp [plainName, overriddenIn]; done) | decide +kernel)
theorem d7_0 : decode jdk_52_method_15_code 0 = .ok (.iload_n 1, 1) := by decide +kernel
theorem d7_1 : decode jdk_52_method_15_code 1 = .ok (.aload_n 0, 1) := by decide +kernel
theorem d7_2 : decode jdk_52_method_15_code 2 = .ok (.arraylength, 1) := by decide +kernel
theorem d7_3 : decode jdk_52_method_15_code 3 = .ok (.isub, 1) := by decide +kernel
theorem d7_4 : decode jdk_52_method_15_code 4 = .ok (.bipush 31, 2) := by decide +kernel
theorem d7_6 : decode jdk_52_method_15_code 6 = .ok (.iushr, 1) := by decide +kernel
theorem d7_7 : decode jdk_52_method_15_code 7 = .ok (.i2b, 1) := by decide +kernel
theorem d7_8 : decode jdk_52_method_15_code 8 = .ok (.ireturn, 1) := by decide +kernel
def Q_cfl (Z : State) (b : Addr) (kb : ClassId) (cs : List Int32) (h0 : Heap) (rv : Option Value) (h : Heap) (L : List Loc) : Prop := rv = some (.int (0 : Int32)) ∧ L = [] ∧ h = h0
theorem rm_cfl (l : Launch) (Z : State) (a0 : Array Value) (hw : ∀ d ∈ tables_1, d.before a0 Z = true) (b : Addr) (kb : ClassId) (cs : List Int32) (h0 : Heap) (O0 : Ext Z.heap h0) (B0 : AL Z h0 b kb .byte (by8 cs)) :
    Met1 l Z mN12 jdk_52_method_15_code 2 (some .byte) ({ frames := 0, cells := 0, slots := 0, locals := 0 } : Room) #[(.ref b), (.int cs.length.toInt32)] h0 (Q_cfl Z b kb cs h0) := by
  refine Met1.of_body (Ls := #[.val (.ref b), .val (.int cs.length.toInt32)]) pf_7 (fun m => by first | (simp [entryFrame, mkF, argsToLocals, Value.category]; done) | rfl) ?_
  intro p e s m below meth c T0 C X0 e0
  have N0 : Fr Z.heap.size [] := Fr.nil _
  refine Go.iloadN (pc' := 1) C X0 d7_0 rfl rfl ?_
  refine Go.aloadN (pc' := 2) C X0 d7_1 rfl rfl rfl ?_
  refine Go.alen (z := cs.length.toInt32) (pc' := 3) C X0 e0 B0 (by rw [by8_len]) d7_2 rfl ?_
  refine Go.isub (pc' := 4) C X0 d7_3 rfl ?_
  refine Go.bipush (z := (31 : Int32)) (pc' := 6) C X0 d7_4 rfl rfl ?_
  refine Go.iushr (pc' := 7) C X0 d7_6 rfl ?_
  refine Go.i2b (pc' := 8) C X0 d7_7 rfl ?_
  exact Go.retN C X0 rfl d7_8 (by simp) (by rw [e0]; exact ⟨(by rw [Int32.sub_self]; rfl), rfl, rfl⟩) (by decide) (by decide)
theorem pd_1 : parseMethodDescriptor "([CII)[B" = some ⟨[(.array .char), .int, .int], some (.array .byte)⟩ := by decide +kernel
theorem pd_2 : parseMethodDescriptor "([BI)B" = some ⟨[(.array .byte), .int], some .byte⟩ := by decide +kernel
theorem pf_3 : plainFor mN9 = true := plainFor_of_name (by first | (simp [plainName, overriddenIn]; done) | decide +kernel)
theorem d3_0 : decode jdk_42_method_149_code 0 = .ok (.aload_n 0, 1) := by decide +kernel
theorem d3_1 : decode jdk_42_method_149_code 1 = .ok (.invokespecial 1, 3) := by decide +kernel
theorem d3_4 : decode jdk_42_method_149_code 4 = .ok (.iload_n 3, 1) := by decide +kernel
theorem d3_5 : decode jdk_42_method_149_code 5 = .ok (.ifCond .ne 22, 3) := by decide +kernel
theorem d3_27 : decode jdk_42_method_149_code 27 = .ok (.getstatic 38, 3) := by decide +kernel
theorem d3_30 : decode jdk_42_method_149_code 30 = .ok (.ifCond .eq 28, 3) := by decide +kernel
theorem d3_33 : decode jdk_42_method_149_code 33 = .ok (.aload_n 1, 1) := by decide +kernel
theorem d3_34 : decode jdk_42_method_149_code 34 = .ok (.iload_n 2, 1) := by decide +kernel
theorem d3_35 : decode jdk_42_method_149_code 35 = .ok (.iload_n 3, 1) := by decide +kernel
theorem d3_36 : decode jdk_42_method_149_code 36 = .ok (.invokestatic 177, 3) := by decide +kernel
theorem d3_39 : decode jdk_42_method_149_code 39 = .ok (.astore 5, 2) := by decide +kernel
theorem d3_41 : decode jdk_42_method_149_code 41 = .ok (.aload_n 0, 1) := by decide +kernel
theorem d3_42 : decode jdk_42_method_149_code 42 = .ok (.aload 5, 2) := by decide +kernel
theorem d3_44 : decode jdk_42_method_149_code 44 = .ok (.iload_n 3, 1) := by decide +kernel
theorem d3_45 : decode jdk_42_method_149_code 45 = .ok (.invokestatic 47, 3) := by decide +kernel
theorem d3_48 : decode jdk_42_method_149_code 48 = .ok (.putfield 15, 3) := by decide +kernel
theorem d3_51 : decode jdk_42_method_149_code 51 = .ok (.aload_n 0, 1) := by decide +kernel
theorem d3_52 : decode jdk_42_method_149_code 52 = .ok (.aload 5, 2) := by decide +kernel
theorem d3_54 : decode jdk_42_method_149_code 54 = .ok (.putfield 9, 3) := by decide +kernel
theorem d3_57 : decode jdk_42_method_149_code 57 = .ok (.return_, 1) := by decide +kernel
def Q_sI4 (Z : State) (s1 : Addr) (a : Addr) (ka : ClassId) (cs : List Int32) (cP : Int32) (h0 : Heap) (rv : Option Value) (h : Heap) (L : List Loc) : Prop := ∃ v : Addr, ∃ kv : ClassId, rv = none ∧ Fr Z.heap.size L ∧ Keep h0 h [s1] ∧ h0.size ≤ v ∧ Fld Z h s1 "java/lang/String" "value" "[B" (.ref v) ∧ Fld Z h s1 "java/lang/String" "coder" "B" (.int (0 : Int32)) ∧ AL Z h v kv .byte (by8 cs)
theorem rm_sI4 (l : Launch) (Z : State) (a0 : Array Value) (hw : ∀ d ∈ tables_1, d.before a0 Z = true) (s1 : Addr) (a : Addr) (ka : ClassId) (cs : List Int32) (cP : Int32) (h0 : Heap) (O0 : Ext Z.heap h0) (E0 : Exa Z h0 s1 "java/lang/String") (Fv : Fld Z h0 s1 "java/lang/String" "value" "[B" .null) (Fc : Fld Z h0 s1 "java/lang/String" "coder" "B" (.int (0 : Int32))) (A0 : AL Z h0 a ka .char (ch16 cs)) (SC : Sta Z Z.heap "java/lang/String" "COMPACT_STRINGS" "Z" (.int cP)) (hcs : ∀ x ∈ cs, 0 ≤ x.toInt ∧ x.toInt ≤ 255) (hl : cs.length < 2 ^ 31) (hN : cs.length ≤ 18) (hpos : ¬ cs.length.toInt32 = (0 : Int32)) (hP : ¬ cP = (0 : Int32)) (hns : Z.heap.size ≤ s1) :
    Met1 l Z mN9 jdk_42_method_149_code 6 none ({ frames := 2, cells := 1, slots := 18, locals := 35 } : Room) #[(.ref s1), (.ref a), (.int (0 : Int32)), (.int cs.length.toInt32), .null] h0 (Q_sI4 Z s1 a ka cs cP h0) := by
  refine Met1.of_body (Ls := #[.val (.ref s1), .val (.ref a), .val (.int (0 : Int32)), .val (.int cs.length.toInt32), .val .null, .unset]) pf_3 (fun m => by first | (simp [entryFrame, mkF, argsToLocals, Value.category]; done) | rfl) ?_
  intro p e s m below meth c T0 C X0 e0
  have N0 : Fr Z.heap.size [] := Fr.nil _
  refine Go.aloadN (pc' := 1) C X0 d3_0 rfl rfl rfl ?_
  refine Go.initO (pc' := 4) (W := 0) C X0 (tw hw 16 rfl) (tw hw 17 rfl) (tw hw 18 rfl) e0 rfl (by decide) (Nat.le_of_eq rfl) (by decide) d3_1 rfl ?_
  intro T101 X101 e101
  refine Go.iloadN (pc' := 5) C X101 d3_4 rfl rfl ?_
  refine Go.ifYes (pc' := 27) C X101 d3_5 ((if0 _ _).trans (feq (x := cs.length.toInt32) (y := (0 : Int32)) hpos).2) (by decide) (by decide) ?_
  refine Go.getS (pc' := 30) (host := "") C X101 (Or.inl (tw hw 19 rfl)) Via.refl e101 (SC.ext O0) d3_27 rfl ?_
  intro T103 X103 e103
  refine Go.ifNo (pc' := 33) C X103 d3_30 ((if0 _ _).trans (feq (x := cP) (y := (0 : Int32)) hP).1) rfl ?_
  refine Go.aloadN (pc' := 34) C X103 d3_33 rfl rfl rfl ?_
  refine Go.iloadN (pc' := 35) C X103 d3_34 rfl rfl ?_
  refine Go.iloadN (pc' := 36) C X103 d3_35 rfl rfl ?_
  refine Go.callS (y := mN13) (pc' := 39) C X103 (tw hw 20 rfl) (tw hw 21 rfl) (by decide) (rm_cmpO l Z a0 hw a ka cs h0 O0 A0 hcs hl hN) (tw hw 23 rfl) (tw hw 22 rfl) e103 (argsL := [(.ref a), (.int (0 : Int32)), (.int cs.length.toInt32)]) (rest := []) (W := 0) rfl rfl pd_1 rfl (Nat.le_of_eq rfl) rfl (by decide) (by decide) (by decide) (by decide) d3_36 rfl ?_
  intro T105 v105 L105 X105 q105
  obtain ⟨b_105, kb_105, rfl, N105q, K105, B105_0, P105_0⟩ := q105
  have N105 := Fr.app N0 N105q
  have n_b_105 : Z.heap.size ≤ b_105 := Nat.le_trans O0.1 B105_0
  have z_b_105 : h0.size ≤ b_105 := Nat.le_trans (Nat.le_refl _) B105_0
  refine Go.astore (Ls' := #[.val (.ref s1), .val (.ref a), .val (.int (0 : Int32)), .val (.int cs.length.toInt32), .val .null, .val (.ref b_105)]) (pc' := 41) C X105 d3_39 rfl rfl rfl ?_
  refine Go.aloadN (pc' := 42) C X105 d3_41 rfl rfl rfl ?_
  refine Go.aload (pc' := 44) C X105 d3_42 rfl rfl rfl ?_
  refine Go.iloadN (pc' := 45) C X105 d3_44 rfl rfl ?_
  have O107 : Ext Z.heap T105.heap := (Ext.keep O0 K105 all0)
  refine Go.callS (y := mN12) (pc' := 48) C X105 (tw hw 28 rfl) (tw hw 29 rfl) (by decide) (rm_cfl l Z a0 hw b_105 kb_105 cs T105.heap O107 P105_0) (tw hw 30 rfl) (tw hw 22 rfl) rfl (argsL := [(.ref b_105), (.int cs.length.toInt32)]) (rest := [(.ref s1)]) (W := 1) rfl rfl pd_2 rfl (Nat.le_of_eq rfl) rfl (by decide) (by decide) (by decide) (by decide) d3_45 rfl ?_
  intro T106 v106 L106 X106 q106
  obtain ⟨rfl, rfl, e106⟩ := q106
  have N106 := Fr.app N105 (Fr.nil _)
  have c109 : Fld Z T105.heap s1 "java/lang/String" "coder" "B" (.int (0 : Int32)) := (Fld.keep Fc K105 nin0)
  have c110 : Exa Z T105.heap s1 "java/lang/String" := (Exa.keep E0 K105)
  refine Go.putFN (pc' := 51) (ty := .byte) (v' := .int (0 : Int32)) C X106 (tw hw 31 rfl) Via.refl e106 c109 c110 (Or.inr ⟨(tw hw 32 rfl), rfl, rfl⟩) (tw hw 2 rfl) (by decide) rfl (by decide) d3_48 rfl ?_
  intro T108 h108 X108 e108 W108 F108
  have N108 := Fr.snoc X108 N106 hns
  refine Go.aloadN (pc' := 52) C X108 d3_51 rfl rfl rfl ?_
  refine Go.aload (pc' := 54) C X108 d3_52 rfl rfl rfl ?_
  have c112 : Fld Z h108 s1 "java/lang/String" "value" "[B" .null := (Fld.other W108 (Fld.keep Fv K105 nin0) (Or.inr (slot_ne (Or.inr (tw hw 34 rfl)) (Or.inr (tw hw 32 rfl)) (by decide) (t := (.array .byte)) (t' := .byte) (by decide) (by decide))))
  have c113 : Exa Z h108 s1 "java/lang/String" := (Exa.wr W108 c110)
  refine Go.putF (pc' := 57) (host := "") (ty := (.array .byte)) C X108 (Or.inl (tw hw 33 rfl)) Via.refl e108 c112 c113 (Or.inr ⟨(tw hw 34 rfl), rfl, rfl⟩) (tw hw 2 rfl) (by decide) rfl rfl d3_54 rfl ?_
  intro T111 h111 X111 e111 W111 F111
  have N111 := Fr.snoc X111 N108 hns
  have K114 : Keep h0 h111 [s1] := ((((Keep.refl h0 [s1]).trans K105 all0).wr W108 (Or.inl (by simp))).wr W111 (Or.inl (by simp)))
  have c115 : Fld Z h111 s1 "java/lang/String" "coder" "B" (.int (0 : Int32)) := (Fld.other W111 F108 (Or.inr (slot_ne (Or.inr (tw hw 32 rfl)) (Or.inr (tw hw 34 rfl)) (by decide) (t := .byte) (t' := (.array .byte)) (by decide) (by decide))))
  have ne116 : b_105 ≠ s1 := (Nat.ne_of_gt (Nat.lt_of_lt_of_le E0.lt (Nat.le_trans (Nat.le_refl _) B105_0)))
  have c117 : AL Z h111 b_105 kb_105 .byte (by8 cs) := (AL.other W111 (AL.other W108 P105_0 ne116) ne116)
  exact Go.retV C X111 rfl d3_57 (by rw [e111]; exact ⟨b_105, kb_105, rfl, N111, K114, z_b_105, F111, c115, c117⟩) (by decide) (by decide)
theorem pd_3 : parseMethodDescriptor "([CIILjava/lang/Void;)V" = some ⟨[(.array .char), .int, .int, (.object "java/lang/Void")], none⟩ := by decide +kernel
theorem pf_2 : plainFor mN8 = true := plainFor_of_name (by first | (simp [plainName, overriddenIn]; done) | decide +kernel)
theorem d2_0 : decode jdk_42_method_3_code 0 = .ok (.aload_n 0, 1) := by decide +kernel
theorem d2_1 : decode jdk_42_method_3_code 1 = .ok (.aload_n 1, 1) := by decide +kernel
theorem d2_2 : decode jdk_42_method_3_code 2 = .ok (.iconst 0, 1) := by decide +kernel
theorem d2_3 : decode jdk_42_method_3_code 3 = .ok (.aload_n 1, 1) := by decide +kernel
theorem d2_4 : decode jdk_42_method_3_code 4 = .ok (.arraylength, 1) := by decide +kernel
theorem d2_5 : decode jdk_42_method_3_code 5 = .ok (.aconst_null, 1) := by decide +kernel
theorem d2_6 : decode jdk_42_method_3_code 6 = .ok (.invokespecial 27, 3) := by decide +kernel
theorem d2_9 : decode jdk_42_method_3_code 9 = .ok (.return_, 1) := by decide +kernel
def Q_sI1 (Z : State) (s1 : Addr) (a : Addr) (ka : ClassId) (cs : List Int32) (cP : Int32) (h0 : Heap) (rv : Option Value) (h : Heap) (L : List Loc) : Prop := ∃ v : Addr, ∃ kv : ClassId, rv = none ∧ Fr Z.heap.size L ∧ Keep h0 h [s1] ∧ h0.size ≤ v ∧ Fld Z h s1 "java/lang/String" "value" "[B" (.ref v) ∧ Fld Z h s1 "java/lang/String" "coder" "B" (.int (0 : Int32)) ∧ AL Z h v kv .byte (by8 cs)
theorem rm_sI1 (l : Launch) (Z : State) (a0 : Array Value) (hw : ∀ d ∈ tables_1, d.before a0 Z = true) (s1 : Addr) (a : Addr) (ka : ClassId) (cs : List Int32) (cP : Int32) (h0 : Heap) (O0 : Ext Z.heap h0) (E0 : Exa Z h0 s1 "java/lang/String") (Fv : Fld Z h0 s1 "java/lang/String" "value" "[B" .null) (Fc : Fld Z h0 s1 "java/lang/String" "coder" "B" (.int (0 : Int32))) (A0 : AL Z h0 a ka .char (ch16 cs)) (SC : Sta Z Z.heap "java/lang/String" "COMPACT_STRINGS" "Z" (.int cP)) (hcs : ∀ x ∈ cs, 0 ≤ x.toInt ∧ x.toInt ≤ 255) (hl : cs.length < 2 ^ 31) (hN : cs.length ≤ 18) (hpos : ¬ cs.length.toInt32 = (0 : Int32)) (hP : ¬ cP = (0 : Int32)) (hns : Z.heap.size ≤ s1) :
    Met1 l Z mN8 jdk_42_method_3_code 2 none ({ frames := 3, cells := 1, slots := 18, locals := 52 } : Room) #[(.ref s1), (.ref a)] h0 (Q_sI1 Z s1 a ka cs cP h0) := by
  refine Met1.of_body (Ls := #[.val (.ref s1), .val (.ref a)]) pf_2 (fun m => by first | (simp [entryFrame, mkF, argsToLocals, Value.category]; done) | rfl) ?_
  intro p e s m below meth c T0 C X0 e0
  have N0 : Fr Z.heap.size [] := Fr.nil _
  refine Go.aloadN (pc' := 1) C X0 d2_0 rfl rfl rfl ?_
  refine Go.aloadN (pc' := 2) C X0 d2_1 rfl rfl rfl ?_
  refine Go.iconst (z := (0 : Int32)) (pc' := 3) C X0 d2_2 rfl rfl ?_
  refine Go.aloadN (pc' := 4) C X0 d2_3 rfl rfl rfl ?_
  refine Go.alen (z := cs.length.toInt32) (pc' := 5) C X0 e0 A0 (by rw [ch16_len]) d2_4 rfl ?_
  refine Go.aconstNull (pc' := 6) C X0 d2_5 rfl ?_
  refine Go.callI (y := mN9) (a := s1) (pc' := 9) C X0 rfl (tw hw 12 rfl) (tw hw 13 rfl) (by decide) (rm_sI4 l Z a0 hw s1 a ka cs cP h0 O0 E0 Fv Fc A0 SC hcs hl hN hpos hP hns) (tw hw 15 rfl) (tw hw 3 rfl) e0 (argsL := [(.ref a), (.int (0 : Int32)), (.int cs.length.toInt32), .null]) (rest := []) (W := 0) rfl rfl pd_3 rfl (Nat.le_of_eq rfl) rfl (by decide) (by decide) (by decide) (by decide) rfl d2_6 rfl ?_
  intro T101 v101 L101 X101 q101
  obtain ⟨v_101, kv_101, rfl, N101q, K101, B101_0, P101_0, P101_1, P101_2⟩ := q101
  have N101 := Fr.app N0 N101q
  have n_v_101 : Z.heap.size ≤ v_101 := Nat.le_trans O0.1 B101_0
  have z_v_101 : h0.size ≤ v_101 := Nat.le_trans (Nat.le_refl _) B101_0
  have K102 : Keep h0 T101.heap [s1] := ((Keep.refl h0 [s1]).trans K101 (allS (Or.inl (by simp)) all0))
  exact Go.retV C X101 rfl d2_9 ⟨v_101, kv_101, rfl, N101, K102, z_v_101, P101_0, P101_1, P101_2⟩ (by decide) (by decide)
theorem d9_0 : decode jdk_43_method_13_code 0 = .ok (.aload_n 0, 1) := by decide +kernel
theorem d9_1 : decode jdk_43_method_13_code 1 = .ok (.arraylength, 1) := by decide +kernel
theorem d9_2 : decode jdk_43_method_13_code 2 = .ok (.aload_n 1, 1) := by decide +kernel
theorem d9_3 : decode jdk_43_method_13_code 3 = .ok (.arraylength, 1) := by decide +kernel
theorem d9_4 : decode jdk_43_method_13_code 4 = .ok (.if_icmp .ne 30, 3) := by decide +kernel
theorem d9_7 : decode jdk_43_method_13_code 7 = .ok (.iconst 0, 1) := by decide +kernel
theorem d9_8 : decode jdk_43_method_13_code 8 = .ok (.istore_n 2, 1) := by decide +kernel
theorem d9_9 : decode jdk_43_method_13_code 9 = .ok (.iload_n 2, 1) := by decide +kernel
theorem d9_10 : decode jdk_43_method_13_code 10 = .ok (.aload_n 0, 1) := by decide +kernel
theorem d9_11 : decode jdk_43_method_13_code 11 = .ok (.arraylength, 1) := by decide +kernel
theorem d9_12 : decode jdk_43_method_13_code 12 = .ok (.if_icmp .ge 20, 3) := by decide +kernel
theorem d9_15 : decode jdk_43_method_13_code 15 = .ok (.aload_n 0, 1) := by decide +kernel
theorem d9_16 : decode jdk_43_method_13_code 16 = .ok (.iload_n 2, 1) := by decide +kernel
theorem d9_17 : decode jdk_43_method_13_code 17 = .ok (.baload, 1) := by decide +kernel
theorem d9_18 : decode jdk_43_method_13_code 18 = .ok (.aload_n 1, 1) := by decide +kernel
theorem d9_19 : decode jdk_43_method_13_code 19 = .ok (.iload_n 2, 1) := by decide +kernel
theorem d9_20 : decode jdk_43_method_13_code 20 = .ok (.baload, 1) := by decide +kernel
theorem d9_21 : decode jdk_43_method_13_code 21 = .ok (.if_icmp .eq 5, 3) := by decide +kernel
theorem d9_24 : decode jdk_43_method_13_code 24 = .ok (.iconst 0, 1) := by decide +kernel
theorem d9_25 : decode jdk_43_method_13_code 25 = .ok (.ireturn, 1) := by decide +kernel
theorem d9_26 : decode jdk_43_method_13_code 26 = .ok (.iinc 2 1, 3) := by decide +kernel
theorem d9_29 : decode jdk_43_method_13_code 29 = .ok (.goto (-20), 3) := by decide +kernel
theorem d9_32 : decode jdk_43_method_13_code 32 = .ok (.iconst 1, 1) := by decide +kernel
theorem d9_33 : decode jdk_43_method_13_code 33 = .ok (.ireturn, 1) := by decide +kernel
theorem d9_34 : decode jdk_43_method_13_code 34 = .ok (.iconst 0, 1) := by decide +kernel
theorem d9_35 : decode jdk_43_method_13_code 35 = .ok (.ireturn, 1) := by decide +kernel
theorem lp_equals {p : Program} {l : Launch} {e : Env} {R : Room} {s : State} {m : MethodId} {args : Array Value} {below : List Frame} {meth : Method} {c : Code} {Z : State} {Fin' : Outcome → State → Prop} {a b : Addr} {ka kb : ClassId} {xs ys : List Int32} (C : Cx p s m meth c Z "java/lang/StringLatin1" "equals" jdk_43_method_13_code 3 (some .boolean)) (hl : xs.length < 2 ^ 31) (hle : ys.length = xs.length) {T : State} {locs : List Loc} {cells slots : Nat} {h : Heap} (X : Stand p l e R s m args below meth c T locs cells slots) (e0 : T.heap = h) (A : AL Z h a ka .byte (by8 xs)) (B : AL Z h b kb .byte (by8 ys))
    (KT : by8 xs = by8 ys → ∀ i : Int32, Go p e below Fin' T (mkF m 32 #[.val (.ref a), .val (.ref b), .val (.int i)] [])) (KF : by8 xs ≠ by8 ys → ∀ i : Int32, Go p e below Fin' T (mkF m 24 #[.val (.ref a), .val (.ref b), .val (.int i)] [])) :
    ∀ (k n : Nat), n + k = xs.length → by8 (xs.take n) = by8 (ys.take n) → Go p e below Fin' T (mkF m 9 #[.val (.ref a), .val (.ref b), .val (.int n.toInt32)] []) := by
  intro k
  induction k with
  | zero =>
    intro n hn hq
    have hn' : n = xs.length := by omega
    subst hn'
    refine Go.iloadN (pc' := 10) C X d9_9 rfl rfl ?_
    refine Go.aloadN (pc' := 11) C X d9_10 rfl rfl rfl ?_
    refine Go.alen (z := xs.length.toInt32) (pc' := 12) C X e0 A (by rw [by8_len]) d9_11 rfl ?_
    refine Go.icmpYes (pc' := 32) C X d9_12 (flt (x := xs.length.toInt32) (y := xs.length.toInt32) (fun q => absurd ((n32_lt hl hl).mp q) (Nat.lt_irrefl _))).2.1 (by decide) (by decide) ?_
    refine KT ?_ _
    rw [List.take_length, List.take_of_length_le (by omega)] at hq
    exact hq
  | succ k ih =>
    intro n hn hq
    have hlt : n < xs.length := by omega
    have hlt' : n < ys.length := by omega
    have hn31 : n < 2 ^ 31 := by omega
    have g1 : (by8 xs)[n]? = some (.int (xs[n]).toInt8.toInt32) := by simp [by8, hlt]
    have g2 : (by8 ys)[n]? = some (.int (ys[n]).toInt8.toInt32) := by simp [by8, hlt']
    refine Go.iloadN (pc' := 10) C X d9_9 rfl rfl ?_
    refine Go.aloadN (pc' := 11) C X d9_10 rfl rfl rfl ?_
    refine Go.alen (z := xs.length.toInt32) (pc' := 12) C X e0 A (by rw [by8_len]) d9_11 rfl ?_
    refine Go.icmpNo (pc' := 15) C X d9_12 (tlt (x := n.toInt32) (y := xs.length.toInt32) ((n32_lt hn31 hl).mpr hlt)).2.1 rfl ?_
    refine Go.aloadN (pc' := 16) C X d9_15 rfl rfl rfl ?_
    refine Go.iloadN (pc' := 17) C X d9_16 rfl rfl ?_
    refine Go.ldB (i := n) (v := .int (xs[n]).toInt8.toInt32) (pc' := 18) C X e0 A (n32_neg hn31) (n32_nat hn31) g1 d9_17 rfl ?_
    refine Go.aloadN (pc' := 19) C X d9_18 rfl rfl rfl ?_
    refine Go.iloadN (pc' := 20) C X d9_19 rfl rfl ?_
    refine Go.ldB (i := n) (v := .int (ys[n]).toInt8.toInt32) (pc' := 21) C X e0 B (n32_neg hn31) (n32_nat hn31) g2 d9_20 rfl ?_
    by_cases hc : (xs[n]).toInt8.toInt32 = (ys[n]).toInt8.toInt32
    · refine Go.icmpYes (pc' := 26) C X d9_21 (teq hc).1 (by decide) (by decide) ?_
      refine Go.iinc (Ls' := #[.val (.ref a), .val (.ref b), .val (.int (n + 1).toInt32)]) (z := (1 : Int32)) (pc' := 29) C X d9_26 rfl rfl (by rw [n32_succ]; rfl) rfl ?_
      refine Go.goto (pc' := 9) C X d9_29 (by decide) (by decide) ?_
      refine ih (n + 1) (by omega) ?_
      have e1 : xs.take (n + 1) = xs.take n ++ [xs[n]] := by rw [List.take_add_one, List.getElem?_eq_getElem hlt]; rfl
      have e2 : ys.take (n + 1) = ys.take n ++ [ys[n]] := by rw [List.take_add_one, List.getElem?_eq_getElem hlt']; rfl
      rw [e1, e2]
      simp only [by8, List.map_append, List.map_cons, List.map_nil] at hq ⊢
      rw [hq, hc]
    · refine Go.icmpNo (pc' := 24) C X d9_21 (feq hc).1 rfl ?_
      refine KF (fun q => hc ?_) _
      rw [q, g2] at g1
      exact (Value.int.inj (Option.some.inj g1)).symm
theorem pf_9 : plainFor mN11 = true := plainFor_of_name (by first | (simp [plainName, overriddenIn]; done) | decide +kernel)
def Q_eqB (Z : State) (a : Addr) (b : Addr) (ka : ClassId) (kb : ClassId) (xs : List Int32) (ys : List Int32) (h0 : Heap) (rv : Option Value) (h : Heap) (L : List Loc) : Prop := rv = some (.int (if by8 xs = by8 ys then (1 : Int32) else 0)) ∧ L = [] ∧ h = h0
theorem rm_eqB (l : Launch) (Z : State) (a0 : Array Value) (hw : ∀ d ∈ tables_1, d.before a0 Z = true) (a : Addr) (b : Addr) (ka : ClassId) (kb : ClassId) (xs : List Int32) (ys : List Int32) (h0 : Heap) (O0 : Ext Z.heap h0) (A0 : AL Z h0 a ka .byte (by8 xs)) (B0 : AL Z h0 b kb .byte (by8 ys)) (hl : xs.length < 2 ^ 31) (hl2 : ys.length < 2 ^ 31) :
    Met1 l Z mN11 jdk_43_method_13_code 3 (some .boolean) ({ frames := 0, cells := 0, slots := 0, locals := 0 } : Room) #[(.ref a), (.ref b)] h0 (Q_eqB Z a b ka kb xs ys h0) := by
  refine Met1.of_body (Ls := #[.val (.ref a), .val (.ref b), .unset]) pf_9 (fun m => by first | (simp [entryFrame, mkF, argsToLocals, Value.category]; done) | rfl) ?_
  intro p e s m below meth c T0 C X0 e0
  have N0 : Fr Z.heap.size [] := Fr.nil _
  refine Go.aloadN (pc' := 1) C X0 d9_0 rfl rfl rfl ?_
  refine Go.alen (z := xs.length.toInt32) (pc' := 2) C X0 e0 A0 (by rw [by8_len]) d9_1 rfl ?_
  refine Go.aloadN (pc' := 3) C X0 d9_2 rfl rfl rfl ?_
  refine Go.alen (z := ys.length.toInt32) (pc' := 4) C X0 e0 B0 (by rw [by8_len]) d9_3 rfl ?_
  by_cases hc : xs.length = ys.length
  · refine Go.icmpNo (pc' := 7) C X0 d9_4 (teq ((n32_eq hl hl2).mpr hc)).2 rfl ?_
    refine Go.iconst (z := (0 : Int32)) (pc' := 8) C X0 d9_7 rfl rfl ?_
    refine Go.istoreN (Ls' := #[.val (.ref a), .val (.ref b), .val (.int (0 : Int32))]) (pc' := 9) C X0 d9_8 rfl rfl ?_
    refine lp_equals C hl hc.symm X0 e0 A0 B0 ?_ ?_ xs.length 0 (by omega) (by simp [by8])
    · intro hq i
      refine Go.iconst (z := (1 : Int32)) (pc' := 33) C X0 d9_32 rfl rfl ?_
      exact Go.retN C X0 rfl d9_33 (by simp) (by rw [e0]; exact ⟨by rw [if_pos hq]; rfl, rfl, rfl⟩) (by decide) (by decide)
    · intro hq i
      refine Go.iconst (z := (0 : Int32)) (pc' := 25) C X0 d9_24 rfl rfl ?_
      exact Go.retN C X0 rfl d9_25 (by simp) (by rw [e0]; exact ⟨by rw [if_neg hq]; rfl, rfl, rfl⟩) (by decide) (by decide)
  · refine Go.icmpYes (pc' := 34) C X0 d9_4 (feq (fun q => hc ((n32_eq hl hl2).mp q))).2 (by decide) (by decide) ?_
    refine Go.iconst (z := (0 : Int32)) (pc' := 35) C X0 d9_34 rfl rfl ?_
    have hq : by8 xs ≠ by8 ys := fun q => hc (by have := congrArg List.length q; simpa [by8_len] using this)
    exact Go.retN C X0 rfl d9_35 (by simp) (by rw [e0]; exact ⟨by rw [if_neg hq]; rfl, rfl, rfl⟩) (by decide) (by decide)
theorem pf_8 : plainFor mN10 = true := plainFor_of_name (by first | (simp [plainName, overriddenIn]; done) | decide +kernel)
theorem d8_0 : decode jdk_42_method_66_code 0 = .ok (.aload_n 0, 1) := by decide +kernel
theorem d8_1 : decode jdk_42_method_66_code 1 = .ok (.aload_n 1, 1) := by decide +kernel
theorem d8_2 : decode jdk_42_method_66_code 2 = .ok (.if_acmp .ne 5, 3) := by decide +kernel
theorem d8_5 : decode jdk_42_method_66_code 5 = .ok (.iconst 1, 1) := by decide +kernel
theorem d8_6 : decode jdk_42_method_66_code 6 = .ok (.ireturn, 1) := by decide +kernel
def Q_eqSame (Z : State) (s1 : Addr) (h0 : Heap) (rv : Option Value) (h : Heap) (L : List Loc) : Prop := rv = some (.int (1 : Int32)) ∧ L = [] ∧ h = h0
theorem rm_eqSame (l : Launch) (Z : State) (a0 : Array Value) (hw : ∀ d ∈ tables_1, d.before a0 Z = true) (s1 : Addr) (h0 : Heap) (O0 : Ext Z.heap h0) :
    Met1 l Z mN10 jdk_42_method_66_code 3 (some .boolean) ({ frames := 0, cells := 0, slots := 0, locals := 0 } : Room) #[(.ref s1), (.ref s1)] h0 (Q_eqSame Z s1 h0) := by
  refine Met1.of_body (Ls := #[.val (.ref s1), .val (.ref s1), .unset]) pf_8 (fun m => by first | (simp [entryFrame, mkF, argsToLocals, Value.category]; done) | rfl) ?_
  intro p e s m below meth c T0 C X0 e0
  have N0 : Fr Z.heap.size [] := Fr.nil _
  refine Go.aloadN (pc' := 1) C X0 d8_0 rfl rfl rfl ?_
  refine Go.aloadN (pc' := 2) C X0 d8_1 rfl rfl rfl ?_
  refine Go.acmpNo (pc' := 5) C X0 d8_2 rfl rfl (XT.aa_ne_f rfl) rfl ?_
  refine Go.iconst (z := (1 : Int32)) (pc' := 6) C X0 d8_5 rfl rfl ?_
  exact Go.retN C X0 rfl d8_6 (by simp) (by rw [e0]; exact ⟨rfl, rfl, rfl⟩) (by decide) (by decide)
theorem d8_7 : decode jdk_42_method_66_code 7 = .ok (.aload_n 1, 1) := by decide +kernel
theorem d8_8 : decode jdk_42_method_66_code 8 = .ok (.instanceof 10, 3) := by decide +kernel
theorem d8_11 : decode jdk_42_method_66_code 11 = .ok (.ifCond .eq 43, 3) := by decide +kernel
theorem d8_54 : decode jdk_42_method_66_code 54 = .ok (.iconst 0, 1) := by decide +kernel
theorem d8_55 : decode jdk_42_method_66_code 55 = .ok (.ireturn, 1) := by decide +kernel
def Q_eqNull (Z : State) (s1 : Addr) (h0 : Heap) (rv : Option Value) (h : Heap) (L : List Loc) : Prop := rv = some (.int (0 : Int32)) ∧ L = [] ∧ h = h0
theorem rm_eqNull (l : Launch) (Z : State) (a0 : Array Value) (hw : ∀ d ∈ tables_1, d.before a0 Z = true) (s1 : Addr) (h0 : Heap) (O0 : Ext Z.heap h0) :
    Met1 l Z mN10 jdk_42_method_66_code 3 (some .boolean) ({ frames := 0, cells := 0, slots := 0, locals := 0 } : Room) #[(.ref s1), .null] h0 (Q_eqNull Z s1 h0) := by
  refine Met1.of_body (Ls := #[.val (.ref s1), .val .null, .unset]) pf_8 (fun m => by first | (simp [entryFrame, mkF, argsToLocals, Value.category]; done) | rfl) ?_
  intro p e s m below meth c T0 C X0 e0
  have N0 : Fr Z.heap.size [] := Fr.nil _
  refine Go.aloadN (pc' := 1) C X0 d8_0 rfl rfl rfl ?_
  refine Go.aloadN (pc' := 2) C X0 d8_1 rfl rfl rfl ?_
  refine Go.acmpYes (pc' := 7) C X0 d8_2 rfl rfl (XT.aa_ne_t nofun) (by decide) (by decide) ?_
  refine Go.aloadN (pc' := 8) C X0 d8_7 rfl rfl rfl ?_
  refine Go.instNull (pc' := 11) C X0 d8_8 rfl ?_
  refine Go.ifYes (pc' := 54) C X0 d8_11 ((if0 _ _).trans (teq (x := (0 : Int32)) (y := (0 : Int32)) (by decide)).1) (by decide) (by decide) ?_
  refine Go.iconst (z := (0 : Int32)) (pc' := 55) C X0 d8_54 rfl rfl ?_
  exact Go.retN C X0 rfl d8_55 (by simp) (by rw [e0]; exact ⟨rfl, rfl, rfl⟩) (by decide) (by decide)
theorem own_if1 {P : Prop} [Decidable P] (h : ¬ (if P then (1 : Int32) else 0) = (0 : Int32)) : some (Value.int (nar .boolean (1 : Int32))) = some (Value.int (if P then (1 : Int32) else 0)) := by
  by_cases q : P
  · rw [if_pos q]; rfl
  · rw [if_neg q] at h; exact absurd rfl h
theorem own_if0 {P : Prop} [Decidable P] (h : (if P then (1 : Int32) else 0) = (0 : Int32)) : some (Value.int (nar .boolean (0 : Int32))) = some (Value.int (if P then (1 : Int32) else 0)) := by
  rw [h]; rfl
theorem pd_4 : parseMethodDescriptor "([B[B)Z" = some ⟨[(.array .byte), (.array .byte)], some .boolean⟩ := by decide +kernel
theorem d8_14 : decode jdk_42_method_66_code 14 = .ok (.aload_n 1, 1) := by decide +kernel
theorem d8_15 : decode jdk_42_method_66_code 15 = .ok (.checkcast 10, 3) := by decide +kernel
theorem d8_18 : decode jdk_42_method_66_code 18 = .ok (.astore_n 2, 1) := by decide +kernel
theorem d8_19 : decode jdk_42_method_66_code 19 = .ok (.getstatic 38, 3) := by decide +kernel
theorem d8_22 : decode jdk_42_method_66_code 22 = .ok (.ifCond .eq 14, 3) := by decide +kernel
theorem d8_25 : decode jdk_42_method_66_code 25 = .ok (.aload_n 0, 1) := by decide +kernel
theorem d8_26 : decode jdk_42_method_66_code 26 = .ok (.getfield 15, 3) := by decide +kernel
theorem d8_29 : decode jdk_42_method_66_code 29 = .ok (.aload_n 2, 1) := by decide +kernel
theorem d8_30 : decode jdk_42_method_66_code 30 = .ok (.getfield 15, 3) := by decide +kernel
theorem d8_33 : decode jdk_42_method_66_code 33 = .ok (.if_icmp .ne 21, 3) := by decide +kernel
theorem d8_36 : decode jdk_42_method_66_code 36 = .ok (.aload_n 0, 1) := by decide +kernel
theorem d8_37 : decode jdk_42_method_66_code 37 = .ok (.getfield 9, 3) := by decide +kernel
theorem d8_40 : decode jdk_42_method_66_code 40 = .ok (.aload_n 2, 1) := by decide +kernel
theorem d8_41 : decode jdk_42_method_66_code 41 = .ok (.getfield 9, 3) := by decide +kernel
theorem d8_44 : decode jdk_42_method_66_code 44 = .ok (.invokestatic 541, 3) := by decide +kernel
theorem d8_47 : decode jdk_42_method_66_code 47 = .ok (.ifCond .eq 7, 3) := by decide +kernel
theorem d8_50 : decode jdk_42_method_66_code 50 = .ok (.iconst 1, 1) := by decide +kernel
theorem d8_51 : decode jdk_42_method_66_code 51 = .ok (.goto 4, 3) := by decide +kernel
def Q_eqS (Z : State) (s1 : Addr) (s2 : Addr) (v1 : Addr) (v2 : Addr) (k1 : ClassId) (k2 : ClassId) (xs : List Int32) (ys : List Int32) (cP : Int32) (h0 : Heap) (rv : Option Value) (h : Heap) (L : List Loc) : Prop := rv = some (.int (if by8 xs = by8 ys then (1 : Int32) else 0)) ∧ L = [] ∧ h = h0
theorem rm_eqS (l : Launch) (Z : State) (a0 : Array Value) (hw : ∀ d ∈ tables_1, d.before a0 Z = true) (s1 : Addr) (s2 : Addr) (v1 : Addr) (v2 : Addr) (k1 : ClassId) (k2 : ClassId) (xs : List Int32) (ys : List Int32) (cP : Int32) (h0 : Heap) (O0 : Ext Z.heap h0) (SC : Sta Z Z.heap "java/lang/String" "COMPACT_STRINGS" "Z" (.int cP)) (E1 : Exa Z h0 s1 "java/lang/String") (V1 : Fld Z h0 s1 "java/lang/String" "value" "[B" (.ref v1)) (C1 : Fld Z h0 s1 "java/lang/String" "coder" "B" (.int (0 : Int32))) (B1 : AL Z h0 v1 k1 .byte (by8 xs)) (E2 : Exa Z h0 s2 "java/lang/String") (V2 : Fld Z h0 s2 "java/lang/String" "value" "[B" (.ref v2)) (C2 : Fld Z h0 s2 "java/lang/String" "coder" "B" (.int (0 : Int32))) (B2 : AL Z h0 v2 k2 .byte (by8 ys)) (hne : s1 ≠ s2) (hP : ¬ cP = (0 : Int32)) (hl : xs.length < 2 ^ 31) (hl2 : ys.length < 2 ^ 31) :
    Met1 l Z mN10 jdk_42_method_66_code 3 (some .boolean) ({ frames := 1, cells := 0, slots := 0, locals := 14 } : Room) #[(.ref s1), (.ref s2)] h0 (Q_eqS Z s1 s2 v1 v2 k1 k2 xs ys cP h0) := by
  refine Met1.of_body (Ls := #[.val (.ref s1), .val (.ref s2), .unset]) pf_8 (fun m => by first | (simp [entryFrame, mkF, argsToLocals, Value.category]; done) | rfl) ?_
  intro p e s m below meth c T0 C X0 e0
  have N0 : Fr Z.heap.size [] := Fr.nil _
  refine Go.aloadN (pc' := 1) C X0 d8_0 rfl rfl rfl ?_
  refine Go.aloadN (pc' := 2) C X0 d8_1 rfl rfl rfl ?_
  refine Go.acmpYes (pc' := 7) C X0 d8_2 rfl rfl (XT.aa_ne_t (fun q => hne (Value.ref.inj q))) (by decide) (by decide) ?_
  refine Go.aloadN (pc' := 8) C X0 d8_7 rfl rfl rfl ?_
  refine Go.instY (pc' := 11) C X0 (tw hw 43 rfl) e0 (Ins.self E2) d8_8 rfl ?_
  intro T101 X101 e101
  refine Go.ifNo (pc' := 14) C X101 d8_11 ((if0 _ _).trans (feq (x := (1 : Int32)) (y := (0 : Int32)) (by decide)).1) rfl ?_
  refine Go.aloadN (pc' := 15) C X101 d8_14 rfl rfl rfl ?_
  refine Go.castY (pc' := 18) C X101 (tw hw 43 rfl) e101 (Ins.self E2) d8_15 rfl ?_
  intro T103 X103 e103
  refine Go.astoreN (Ls' := #[.val (.ref s1), .val (.ref s2), .val (.ref s2)]) (pc' := 19) C X103 d8_18 rfl rfl rfl ?_
  refine Go.getS (pc' := 22) (host := "") C X103 (Or.inl (tw hw 19 rfl)) Via.refl e103 (SC.ext O0) d8_19 rfl ?_
  intro T104 X104 e104
  refine Go.ifNo (pc' := 25) C X104 d8_22 ((if0 _ _).trans (feq (x := cP) (y := (0 : Int32)) hP).1) rfl ?_
  refine Go.aloadN (pc' := 26) C X104 d8_25 rfl rfl rfl ?_
  refine Go.getF (pc' := 29) (host := "") C X104 (Or.inl (tw hw 31 rfl)) Via.refl e104 C1 d8_26 rfl ?_
  intro T106 X106 e106
  refine Go.aloadN (pc' := 30) C X106 d8_29 rfl rfl rfl ?_
  refine Go.getF (pc' := 33) (host := "") C X106 (Or.inl (tw hw 31 rfl)) Via.refl e106 C2 d8_30 rfl ?_
  intro T107 X107 e107
  refine Go.icmpNo (pc' := 36) C X107 d8_33 (teq (x := (0 : Int32)) (y := (0 : Int32)) (by decide)).2 rfl ?_
  refine Go.aloadN (pc' := 37) C X107 d8_36 rfl rfl rfl ?_
  refine Go.getF (pc' := 40) (host := "") C X107 (Or.inl (tw hw 33 rfl)) Via.refl e107 V1 d8_37 rfl ?_
  intro T109 X109 e109
  refine Go.aloadN (pc' := 41) C X109 d8_40 rfl rfl rfl ?_
  refine Go.getF (pc' := 44) (host := "") C X109 (Or.inl (tw hw 33 rfl)) Via.refl e109 V2 d8_41 rfl ?_
  intro T110 X110 e110
  refine Go.callS (y := mN11) (pc' := 47) C X110 (tw hw 44 rfl) (tw hw 45 rfl) (by decide) (rm_eqB l Z a0 hw v1 v2 k1 k2 xs ys h0 O0 B1 B2 hl hl2) (tw hw 47 rfl) (tw hw 46 rfl) e110 (argsL := [(.ref v1), (.ref v2)]) (rest := []) (W := 0) rfl rfl pd_4 rfl (Nat.le_of_eq rfl) rfl (by decide) (by decide) (by decide) (by decide) d8_44 rfl ?_
  intro T111 v111 L111 X111 q111
  obtain ⟨rfl, rfl, e111⟩ := q111
  have N111 := Fr.app N0 (Fr.nil _)
  by_cases hc47_112 : (if by8 xs = by8 ys then (1 : Int32) else 0) = (0 : Int32)
  · refine Go.ifYes (pc' := 54) C X111 d8_47 ((if0 _ _).trans (teq (x := (if by8 xs = by8 ys then (1 : Int32) else 0)) (y := (0 : Int32)) hc47_112).1) (by decide) (by decide) ?_
    refine Go.iconst (z := (0 : Int32)) (pc' := 55) C X111 d8_54 rfl rfl ?_
    exact Go.retN C X111 rfl d8_55 (by simp) (by rw [e111]; exact ⟨(own_if0 hc47_112), (by simp), rfl⟩) (by decide) (by decide)
  · refine Go.ifNo (pc' := 50) C X111 d8_47 ((if0 _ _).trans (feq (x := (if by8 xs = by8 ys then (1 : Int32) else 0)) (y := (0 : Int32)) hc47_112).1) rfl ?_
    refine Go.iconst (z := (1 : Int32)) (pc' := 51) C X111 d8_50 rfl rfl ?_
    refine Go.goto (pc' := 55) C X111 d8_51 (by decide) (by decide) ?_
    exact Go.retN C X111 rfl d8_55 (by simp) (by rw [e111]; exact ⟨(own_if1 hc47_112), (by simp), rfl⟩) (by decide) (by decide)
theorem EWc {a0 : Array Value} {Z : State} (hw : ∀ d ∈ tables_1, d.before a0 Z = true) : EW Z a0 consts_1 := by
  intro p hp
  simp only [consts_1, List.mem_cons, List.not_mem_nil, or_false] at hp
  rcases hp with rfl | rfl | rfl
  · exact ⟨"law-enforcement", (tw hw 35 rfl), by decide⟩
  · exact ⟨"district-attorney", (tw hw 76 rfl), by decide⟩
  · exact ⟨"", (tw hw 80 rfl), by decide⟩
theorem wS {a0 : Array Value} {Z : State} (hw : ∀ d ∈ tables_1, d.before a0 Z = true) : ∀ a ∈ Bundle.stringAtoms, a.before a0 Z = true := by
  intro a ha
  simp only [Bundle.stringAtoms, List.mem_cons, List.not_mem_nil, or_false] at ha
  rcases ha with rfl | rfl | rfl | rfl | rfl | rfl | rfl
  · exact (tw hw 3 rfl)
  · exact (tw hw 2 rfl)
  · exact (tw hw 24 rfl)
  · exact (tw hw 34 rfl)
  · exact (tw hw 32 rfl)
  · exact (tw hw 36 rfl)
  · exact (tw hw 37 rfl)
theorem d3_8 : decode jdk_42_method_149_code 8 = .ok (.aload_n 0, 1) := by decide +kernel
theorem d3_9 : decode jdk_42_method_149_code 9 = .ok (.ldc 7, 2) := by decide +kernel
theorem d3_11 : decode jdk_42_method_149_code 11 = .ok (.getfield 9, 3) := by decide +kernel
theorem d3_14 : decode jdk_42_method_149_code 14 = .ok (.putfield 9, 3) := by decide +kernel
theorem d3_17 : decode jdk_42_method_149_code 17 = .ok (.aload_n 0, 1) := by decide +kernel
theorem d3_18 : decode jdk_42_method_149_code 18 = .ok (.ldc 7, 2) := by decide +kernel
theorem d3_20 : decode jdk_42_method_149_code 20 = .ok (.getfield 15, 3) := by decide +kernel
theorem d3_23 : decode jdk_42_method_149_code 23 = .ok (.putfield 15, 3) := by decide +kernel
theorem d3_26 : decode jdk_42_method_149_code 26 = .ok (.return_, 1) := by decide +kernel
def Q_sI4z (Z : State) (s1 : Addr) (a : Addr) (h0 : Heap) (rv : Option Value) (h : Heap) (L : List Loc) : Prop := ∃ v : Addr, ∃ kv : ClassId, rv = none ∧ Fr Z.heap.size L ∧ Keep h0 h [s1] ∧ Fld Z h s1 "java/lang/String" "value" "[B" (.ref v) ∧ Fld Z h s1 "java/lang/String" "coder" "B" (.int (0 : Int32)) ∧ AL Z h v kv .byte (by8 [])
theorem rm_sI4z (l : Launch) (Z : State) (a0 : Array Value) (hw : ∀ d ∈ tables_1, d.before a0 Z = true) (s1 : Addr) (a : Addr) (h0 : Heap) (O0 : Ext Z.heap h0) (E0 : Exa Z h0 s1 "java/lang/String") (Fv : Fld Z h0 s1 "java/lang/String" "value" "[B" .null) (Fc : Fld Z h0 s1 "java/lang/String" "coder" "B" (.int (0 : Int32))) (hns : Z.heap.size ≤ s1) :
    Met1H consts_1 [s1] l Z mN9 jdk_42_method_149_code 6 none ({ frames := 1, cells := 4, slots := 8, locals := 12 } : Room) #[(.ref s1), (.ref a), (.int (0 : Int32)), (.int (0 : Int32)), .null] h0 (Q_sI4z Z s1 a h0) := by
  refine Met1H.of_body (Ls := #[.val (.ref s1), .val (.ref a), .val (.int (0 : Int32)), .val (.int (0 : Int32)), .val .null, .unset]) pf_3 (fun m => by first | (simp [entryFrame, mkF, argsToLocals, Value.category]; done) | rfl) ?_
  intro p e s m below meth c T0 C X0 e0 hH0 hsf0
  have Hr0 := CHr.refl hH0
  have N0 : Fr Z.heap.size [] := Fr.nil _
  have Si0 : Sin s s h0 := Sin.start s h0
  refine Go.aloadN (pc' := 1) C X0 d3_0 rfl rfl rfl ?_
  refine Go.initO (pc' := 4) (W := 0) C X0 (tw hw 16 rfl) (tw hw 17 rfl) (tw hw 18 rfl) e0 rfl (by decide) (Nat.le_of_eq rfl) (by decide) d3_1 rfl ?_
  intro T101 X101 e101
  refine Go.iloadN (pc' := 5) C X101 d3_4 rfl rfl ?_
  refine Go.ifNo (pc' := 8) C X101 d3_5 ((if0 _ _).trans (teq (x := (0 : Int32)) (y := (0 : Int32)) (by decide)).2) rfl ?_
  refine Go.aloadN (pc' := 9) C X101 d3_8 rfl rfl rfl ?_
  refine Go.ldcH (pc' := 11) (n := 0) (vs := []) (z := (0 : Int32)) C X101 Si0 (EWc hw) Hr0.1 (tw hw 80 rfl) (wS hw) e101 (by decide) (by decide) (by decide) (by decide) (by decide) (by decide) (by decide) (by decide) d3_9 rfl ?_
  intro T103 h103 b103 sC103 v103 k103 C103 X103 e103 Si103 E103 hR103 A103 F103c F103v B103 hne103
  have Hr104 := CHr.trans Hr0 hR103
  have hx103_s1 := hne103 s1 (CHr.safe Hr104 E0.lt (hsf0 s1 (by simp)))
  refine Go.getF (pc' := 14) (host := "") C103 X103 (Or.inl (tw hw 33 rfl)) Via.refl e103 F103v d3_11 rfl ?_
  intro T105 X105 e105
  have c107 : Fld Z h103 s1 "java/lang/String" "value" "[B" .null := (Fld.ext E103 Fv)
  have c108 : Exa Z h103 s1 "java/lang/String" := (Exa.ext E103 E0)
  refine Go.putF (pc' := 17) (host := "") (ty := (.array .byte)) C103 X105 (Or.inl (tw hw 33 rfl)) Via.refl e105 c107 c108 (Or.inr ⟨(tw hw 34 rfl), rfl, rfl⟩) (tw hw 2 rfl) (by decide) rfl rfl d3_14 rfl ?_
  intro T106 h106 X106 e106 W106 F106
  have Hr109 := CHr.trans Hr104 (CHr.wr W106 (CHr.safe Hr104 E0.lt (hsf0 s1 (by simp))) Hr104.1)
  have N106 := Fr.snoc X106 N0 hns
  refine Go.aloadN (pc' := 18) C103 X106 d3_17 rfl rfl rfl ?_
  have O111 : Ext Z.heap h106 := (Ext.wr (Ext.trans O0 E103) W106 hns)
  have Si112 : Sin s sC103 h106 := Sin.mono Si103 (Nat.le_trans (Nat.le_refl _) (Nat.le_of_eq W106.size.symm))
  refine Go.ldcH (pc' := 20) (n := 0) (vs := []) (z := (0 : Int32)) C103 X106 Si112 (EWc hw) Hr109.1 (tw hw 80 rfl) (wS hw) e106 (by decide) (by decide) (by decide) (by decide) (by decide) (by decide) (by decide) (by decide) d3_18 rfl ?_
  intro T110 h110 b110 sC110 v110 k110 C110 X110 e110 Si110 E110 hR110 A110 F110c F110v B110 hne110
  have Hr113 := CHr.trans Hr109 hR110
  have hx110_s1 := hne110 s1 (CHr.safe Hr113 E0.lt (hsf0 s1 (by simp)))
  refine Go.getF (pc' := 23) (host := "") C110 X110 (Or.inl (tw hw 31 rfl)) Via.refl e110 F110c d3_20 rfl ?_
  intro T114 X114 e114
  have c116 : Fld Z h110 s1 "java/lang/String" "coder" "B" (.int (0 : Int32)) := (Fld.ext E110 (Fld.other W106 (Fld.ext E103 Fc) (Or.inr (slot_ne (Or.inr (tw hw 32 rfl)) (Or.inr (tw hw 34 rfl)) (by decide) (t := .byte) (t' := (.array .byte)) (by decide) (by decide)))))
  have c117 : Exa Z h110 s1 "java/lang/String" := (Exa.ext E110 (Exa.wr W106 c108))
  refine Go.putFN (pc' := 26) (ty := .byte) (v' := .int (0 : Int32)) C110 X114 (tw hw 31 rfl) Via.refl e114 c116 c117 (Or.inr ⟨(tw hw 32 rfl), rfl, rfl⟩) (tw hw 2 rfl) (by decide) rfl (by decide) d3_23 rfl ?_
  intro T115 h115 X115 e115 W115 F115
  have Hr118 := CHr.trans Hr113 (CHr.wr W115 (CHr.safe Hr113 E0.lt (hsf0 s1 (by simp))) Hr113.1)
  have N115 := Fr.snoc X115 N106 hns
  have K119 : Keep h0 h115 [s1] := (((((Keep.refl h0 [s1]).ext E103).wr W106 (Or.inl (by simp))).ext E110).wr W115 (Or.inl (by simp)))
  have c120 : Fld Z h115 s1 "java/lang/String" "value" "[B" (.ref v103) := (Fld.other W115 (Fld.ext E110 F106) (Or.inr (slot_ne (Or.inr (tw hw 34 rfl)) (Or.inr (tw hw 32 rfl)) (by decide) (t := (.array .byte)) (t' := .byte) (by decide) (by decide))))
  have c121 : AL Z h115 v103 k103 .byte [] := (AL.other W115 (AL.ext E110 (AL.other W106 B103 (Ne.symm hx103_s1.2))) (Ne.symm hx103_s1.2))
  have Si122 : Sin s sC110 h115 := Sin.mono Si110 (Nat.le_trans (Nat.le_refl _) (Nat.le_of_eq W115.size.symm))
  exact Go.retVH C110 X115 (by rw [e115]; exact Si122) (EWc hw) (by rw [e115]; exact Hr118) rfl d3_26 (by rw [e115]; exact ⟨v103, k103, rfl, N115, K119, c120, F115, c121⟩) (by decide) (by decide)
def Q_sI1z (Z : State) (s1 : Addr) (a : Addr) (ka : ClassId) (h0 : Heap) (rv : Option Value) (h : Heap) (L : List Loc) : Prop := ∃ v : Addr, ∃ kv : ClassId, rv = none ∧ Fr Z.heap.size L ∧ Keep h0 h [s1] ∧ Fld Z h s1 "java/lang/String" "value" "[B" (.ref v) ∧ Fld Z h s1 "java/lang/String" "coder" "B" (.int (0 : Int32)) ∧ AL Z h v kv .byte (by8 [])
theorem rm_sI1z (l : Launch) (Z : State) (a0 : Array Value) (hw : ∀ d ∈ tables_1, d.before a0 Z = true) (s1 : Addr) (a : Addr) (ka : ClassId) (h0 : Heap) (O0 : Ext Z.heap h0) (E0 : Exa Z h0 s1 "java/lang/String") (Fv : Fld Z h0 s1 "java/lang/String" "value" "[B" .null) (Fc : Fld Z h0 s1 "java/lang/String" "coder" "B" (.int (0 : Int32))) (A0 : AL Z h0 a ka .char []) (hns : Z.heap.size ≤ s1) :
    Met1H consts_1 [s1] l Z mN8 jdk_42_method_3_code 2 none ({ frames := 2, cells := 4, slots := 8, locals := 29 } : Room) #[(.ref s1), (.ref a)] h0 (Q_sI1z Z s1 a ka h0) := by
  refine Met1H.of_body (Ls := #[.val (.ref s1), .val (.ref a)]) pf_2 (fun m => by first | (simp [entryFrame, mkF, argsToLocals, Value.category]; done) | rfl) ?_
  intro p e s m below meth c T0 C X0 e0 hH0 hsf0
  have Hr0 := CHr.refl hH0
  have N0 : Fr Z.heap.size [] := Fr.nil _
  have Si0 : Sin s s h0 := Sin.start s h0
  refine Go.aloadN (pc' := 1) C X0 d2_0 rfl rfl rfl ?_
  refine Go.aloadN (pc' := 2) C X0 d2_1 rfl rfl rfl ?_
  refine Go.iconst (z := (0 : Int32)) (pc' := 3) C X0 d2_2 rfl rfl ?_
  refine Go.aloadN (pc' := 4) C X0 d2_3 rfl rfl rfl ?_
  refine Go.alen (z := (0 : Int32)) (pc' := 5) C X0 e0 A0 rfl d2_4 rfl ?_
  refine Go.aconstNull (pc' := 6) C X0 d2_5 rfl ?_
  refine Go.callIH (y := mN9) (a := s1) (pc' := 9) C X0 Si0 (EWc hw) Hr0.1 rfl (tw hw 12 rfl) (tw hw 13 rfl) (by decide) (allS ⟨Nat.lt_of_lt_of_le E0.lt (Nat.le_refl _), (CHr.safe Hr0 E0.lt (hsf0 s1 (by simp)))⟩ all0) (rm_sI4z l Z a0 hw s1 a h0 O0 E0 Fv Fc hns) (tw hw 15 rfl) (tw hw 3 rfl) e0 (argsL := [(.ref a), (.int (0 : Int32)), (.int (0 : Int32)), .null]) (rest := []) (W := 0) rfl rfl pd_3 rfl (Nat.le_of_eq rfl) rfl (by decide) (by decide) (by decide) (by decide) rfl d2_6 rfl ?_
  intro T101 v101 L101 sC101 C101 X101 Si101 hR101 q101
  obtain ⟨v_101, kv_101, rfl, N101q, K101, P101_0, P101_1, P101_2⟩ := q101
  have N101 := Fr.app N0 N101q
  have Hr102 := CHr.trans Hr0 hR101
  have K103 : Keep h0 T101.heap [s1] := ((Keep.refl h0 [s1]).trans K101 (allS (Or.inl (by simp)) all0))
  exact Go.retVH C101 X101 Si101 (EWc hw) Hr102 rfl d2_9 ⟨v_101, kv_101, rfl, N101, K103, P101_0, P101_1, P101_2⟩ (by decide) (by decide)
theorem by8_get {xs : List Int32} {i : Nat} {x : Int32} (h : xs[i]? = some x) : (by8 xs)[i]? = some (.int x.toInt8.toInt32) := by simp [by8, h]
theorem sh0 (x : Int32) : (x >>> ((0 : Int32) &&& 31)) = x := by
  have q := c_ishr x (0 : Int32) 0 (by decide)
  apply Int32.toInt_inj.mp
  rw [q]; simp
theorem r255 (y : Int32) : 0 ≤ (y &&& (255 : Int32)).toInt ∧ (y &&& (255 : Int32)).toInt ≤ 255 := by
  have h := c_and y (255 : Int32) (by decide)
  simpa using h
theorem u255 {x : Int32} (h : 0 ≤ x.toInt ∧ x.toInt ≤ 255) : (x.toInt8.toInt32 &&& (255 : Int32)) = x := by
  have h1 := c_i2b x
  have h2 := c_mask x.toInt8.toInt32 (255 : Int32) 8 (by decide) (by decide)
  exact Int32.toInt_inj.mp (by omega)
theorem i2cr {y : Int32} (h : 0 ≤ y.toInt ∧ y.toInt ≤ 255) : y.toUInt32.toUInt16.toUInt32.toInt32 = y := by
  have q := c_i2c y
  exact Int32.toInt_inj.mp (by omega)
theorem narcr {y : Int32} (h : 0 ≤ y.toInt ∧ y.toInt ≤ 255) : nar .char y = y := i2cr h
theorem cch {x : Int32} (h : 0 ≤ x.toInt ∧ x.toInt ≤ 255) : some (Value.int (nar .char ((x.toInt8.toInt32 &&& (255 : Int32)).toUInt32.toUInt16.toUInt32.toInt32))) = some (Value.int x) := by
  rw [u255 h, i2cr h, narcr h]
theorem sh1 (n : Nat) (h : n ≤ 18) : (n.toInt32 <<< ((1 : Int32) &&& 31)) = (2 * n).toInt32 := by
  have q := c_ishl n.toInt32 (1 : Int32) 1 (by decide)
  have r := rng32 (n.toInt32 <<< ((1 : Int32) &&& 31))
  apply Int32.toInt_inj.mp
  rw [n32_int (by omega)]
  rw [n32_int (by omega)] at q
  omega
theorem by8_set (ys : List Int32) (i : Nat) (y : Int32) : (by8 ys).set i (.int y.toInt8.toInt32) = by8 (ys.set i y) := by simp [by8, List.map_set]
theorem by8_rep (n : Nat) : List.replicate n (Value.int (0 : Int32)) = by8 (List.replicate n 0) := by simp [by8]
def Two (ys : List Int32) (j : Nat) (x : Int32) : Prop := ys[2 * j]? = some (x >>> ((0 : Int32) &&& 31)) ∧ ys[2 * j + 1]? = some (x >>> ((8 : Int32) &&& 31))
def put2 (ys : List Int32) (n : Nat) (x : Int32) : List Int32 := (ys.set (2 * n) (x >>> ((0 : Int32) &&& 31))).set (2 * n + 1) (x >>> ((8 : Int32) &&& 31))
theorem put2_len (ys : List Int32) (n : Nat) (x : Int32) : (put2 ys n x).length = ys.length := by simp [put2]
theorem put2_two {ys : List Int32} {n j : Nat} {x xj : Int32} (hl : 2 * n + 1 < ys.length) (hc : n = j → x = xj) (h : j < n → Two ys j xj) : j < n + 1 → Two (put2 ys n x) j xj := by
  intro hj
  by_cases e : n = j
  · subst e
    rw [← hc rfl]
    refine ⟨?_, ?_⟩
    · simp only [put2]
      rw [List.getElem?_set_ne (by omega), List.getElem?_set_self (by omega)]
    · simp only [put2]
      rw [List.getElem?_set_self (by simp; omega)]
  · have hT := h (by omega)
    refine ⟨?_, ?_⟩
    · simp only [put2]
      rw [List.getElem?_set_ne (by omega), List.getElem?_set_ne (by omega)]; exact hT.1
    · simp only [put2]
      rw [List.getElem?_set_ne (by omega), List.getElem?_set_ne (by omega)]; exact hT.2
theorem gcv {x : Int32} (h1 : 255 < x.toInt) (h2 : x.toInt ≤ 65535) : (255 : Int32) < nar .char (((((x >>> ((0 : Int32) &&& 31)).toInt8.toInt32 &&& (255 : Int32)) <<< ((0 : Int32) &&& 31)) ||| (((x >>> ((8 : Int32) &&& 31)).toInt8.toInt32 &&& (255 : Int32)) <<< ((8 : Int32) &&& 31))).toUInt32.toUInt16.toUInt32.toInt32) := by
  have a1 := c_ishr x (0 : Int32) 0 (by decide)
  have b1 := c_ishr x (8 : Int32) 8 (by decide)
  generalize (x >>> ((0 : Int32) &&& 31)) = a at *
  generalize (x >>> ((8 : Int32) &&& 31)) = b at *
  have a2 := c_i2b a
  have b2 := c_i2b b
  have a3 := c_mask a.toInt8.toInt32 (255 : Int32) 8 (by decide) (by decide)
  have b3 := c_mask b.toInt8.toInt32 (255 : Int32) 8 (by decide) (by decide)
  generalize (a.toInt8.toInt32 &&& (255 : Int32)) = a' at *
  generalize (b.toInt8.toInt32 &&& (255 : Int32)) = b' at *
  have a4 := c_ishl a' (0 : Int32) 0 (by decide)
  have b4 := c_ishl b' (8 : Int32) 8 (by decide)
  have a5 := rng32 (a' <<< ((0 : Int32) &&& 31))
  have b5 := rng32 (b' <<< ((8 : Int32) &&& 31))
  generalize (a' <<< ((0 : Int32) &&& 31)) = a'' at *
  generalize (b' <<< ((8 : Int32) &&& 31)) = b'' at *
  have o := c_or' a'' b'' 8 (by decide) 256 (by decide) (by omega) (by omega) (by omega)
  have o2 := rng32 (a'' ||| b'')
  generalize (a'' ||| b'') = o' at *
  have e1 := c_i2c o'
  have e2 := c_i2c (o'.toUInt32.toUInt16.toUInt32.toInt32)
  show (255 : Int32) < (o'.toUInt32.toUInt16.toUInt32.toInt32).toUInt32.toUInt16.toUInt32.toInt32
  rw [Int32.lt_iff_toInt_lt]
  simp only [Int32.reduceToInt]
  omega
theorem cfl1 : ∀ n : Nat, n < 19 → 0 < n → ((n.toInt32 - (2 * n).toInt32).toUInt32 >>> ((31 : Int32) &&& 31).toUInt32).toInt32.toInt8.toInt32 = (1 : Int32) := by decide
theorem jlt {cs : List Int32} {j : Nat} {x : Int32} (h : cs[j]? = some x) : j < cs.length := (List.getElem?_eq_some_iff.mp h).1
theorem lt255 {x : Int32} : (255 : Int32) < x ↔ 255 < x.toInt := by rw [Int32.lt_iff_toInt_lt]; rfl
theorem lp_cj {p : Program} {l : Launch} {e : Env} {R : Room} {s : State} {m : MethodId} {args : Array Value} {below : List Frame} {meth : Method} {c : Code} {Z : State} {a0 : Array Value} {Fin' : Outcome → State → Prop} (hw : ∀ d ∈ tables_1, d.before a0 Z = true) (a : Addr) (b : Addr) (ka : ClassId) (kb : ClassId) (cs : List Int32) (j : Nat) (xj : Int32) (C : Cx p s m meth c Z "java/lang/StringUTF16" "compress" jdk_52_method_21_code 7 (some .int)) (hRf : 0 ≤ R.frames) (hRl : 0 ≤ R.locals) (hl : cs.length ≤ 18) (hj : cs[j]? = some xj) (hx : 255 < xj.toInt) (hx2 : xj.toInt ≤ 65535) (hb : ∀ i x, i < j → cs[i]? = some x → x.toInt ≤ 255) (hnb : Z.heap.size ≤ b) (hne : a ≠ b) :
    ∀ (k n : Nat) (T0 : State) (L0 : List Loc) (cells slots : Nat) (h0 : Heap), cells ≤ R.cells → slots ≤ R.slots → ∀ (vs : List Value) (s6 : Slot), (n + k = j + 1) → (n ≤ j) → (vs.length = cs.length) → (One s6) → Stand p l e R s m args below meth c T0 L0 cells slots → T0.heap = h0 → Ext Z.heap h0 → (AL Z h0 a ka .char (ch16 cs)) → (AL Z h0 b kb .byte vs) → Fr Z.heap.size L0 →
      (∀ (T' : State) (L' : List Loc) (h' : Heap) (i' : Int32) (y' : Int32), Stand p l e R s m args below meth c T' L' cells slots → T'.heap = h' → Keep h0 h' [b] → (i' = j.toInt32) → Fr Z.heap.size L' → Go p e below Fin' T' (mkF m 23 #[.val (.ref a), .val (.int i'), .val (.ref b), .val (.int i'), .val (.int cs.length.toInt32), .val (.int i'), .val (.int y')] [])) →
      Go p e below Fin' T0 (mkF m 3 #[.val (.ref a), .val (.int n.toInt32), .val (.ref b), .val (.int n.toInt32), .val (.int cs.length.toInt32), .val (.int n.toInt32), s6] []) := by
  intro k
  induction k with
  | zero =>
    intro n T0 L0 cells slots h0 hRc hRs vs s6 hkn hle hvs h6 X0 e0 O0 A0 B0 N0 K
    exact absurd hkn (by omega)
  | succ k ih =>
    intro n T0 L0 cells slots h0 hRc hRs vs s6 hkn hle hvs h6 X0 e0 O0 A0 B0 N0 K
    refine Go.iload (pc' := 5) C X0 d6_3 rfl rfl ?_
    refine Go.iload (pc' := 7) C X0 d6_5 rfl rfl ?_
    have hlt : n < cs.length := Nat.lt_of_le_of_lt hle (jlt hj)
    refine Go.icmpNo (pc' := 10) C X0 d6_7 (tlt (x := n.toInt32) (y := cs.length.toInt32) ((n32_lt (by omega) (by omega)).mpr hlt)).2.1 rfl ?_
    obtain ⟨x, hx0⟩ : ∃ x, cs[n]? = some x := ⟨_, List.getElem?_eq_getElem hlt⟩
    refine Go.aloadN (pc' := 11) C X0 d6_10 rfl rfl rfl ?_
    refine Go.iloadN (pc' := 12) C X0 d6_11 rfl rfl ?_
    refine Go.ldC (i := n) (v := (.int x)) (pc' := 13) C X0 e0 A0 (n32_neg (by omega)) (n32_nat (by omega)) (by simp [ch16, hx0]) d6_12 rfl ?_
    refine Go.istore (Ls' := #[.val (.ref a), .val (.int n.toInt32), .val (.ref b), .val (.int n.toInt32), .val (.int cs.length.toInt32), .val (.int n.toInt32), .val (.int x)]) (pc' := 15) C X0 d6_13 (XS.store1 (o := s6) rfl h6 rfl) rfl ?_
    refine Go.iload (pc' := 17) C X0 d6_15 rfl rfl ?_
    refine Go.sipush (z := (255 : Int32)) (pc' := 20) C X0 d6_17 rfl rfl ?_
    by_cases hc20_102 : (255 : Int32) < x
    · refine Go.icmpNo (pc' := 23) C X0 d6_20 (tlt (x := (255 : Int32)) (y := x) hc20_102).2.2.2 rfl ?_
      have hnj : n = j := (Nat.lt_or_eq_of_le hle).elim (fun q => absurd (hb n x q hx0) (by have := lt255.mp hc20_102; omega)) id
      exact K _ _ _ n.toInt32 x X0 e0 (Keep.refl h0 [b]) (by rw [hnj])  N0
    · refine Go.icmpYes (pc' := 26) C X0 d6_20 (flt (x := (255 : Int32)) (y := x) hc20_102).2.2.2 (by decide) (by decide) ?_
      refine Go.aloadN (pc' := 27) C X0 d6_26 rfl rfl rfl ?_
      refine Go.iloadN (pc' := 28) C X0 d6_27 rfl rfl ?_
      refine Go.iload (pc' := 30) C X0 d6_28 rfl rfl ?_
      refine Go.i2b (pc' := 31) C X0 d6_30 rfl ?_
      refine Go.stB (i := n) (x' := (x.toInt8.toInt32)) (vs' := (vs.set n (.int x.toInt8.toInt32))) (pc' := 32) C X0 e0 B0 (n32_neg (by omega)) (n32_nat (by omega)) (by omega) (nar_byte8 _) rfl d6_31 rfl ?_
      intro T103 h103 X103 e103 W103 A103
      have N103 := Fr.snoc X103 N0 hnb
      refine Go.iinc (Ls' := #[.val (.ref a), .val (.int (n.toInt32 + (1 : Int32))), .val (.ref b), .val (.int n.toInt32), .val (.int cs.length.toInt32), .val (.int n.toInt32), .val (.int x)]) (z := (1 : Int32)) (pc' := 35) C X103 d6_32 rfl rfl rfl rfl ?_
      refine Go.iinc (Ls' := #[.val (.ref a), .val (.int (n.toInt32 + (1 : Int32))), .val (.ref b), .val (.int (n.toInt32 + (1 : Int32))), .val (.int cs.length.toInt32), .val (.int n.toInt32), .val (.int x)]) (z := (1 : Int32)) (pc' := 38) C X103 d6_35 rfl rfl rfl rfl ?_
      refine Go.iinc (Ls' := #[.val (.ref a), .val (.int (n.toInt32 + (1 : Int32))), .val (.ref b), .val (.int (n.toInt32 + (1 : Int32))), .val (.int cs.length.toInt32), .val (.int (n.toInt32 + (1 : Int32))), .val (.int x)]) (z := (1 : Int32)) (pc' := 41) C X103 d6_38 rfl rfl rfl rfl ?_
      refine Go.goto (pc' := 3) C X103 d6_41 (by decide) (by decide) ?_
      rw [n32_succ]
      have hnj : n ≠ j := fun e => by subst e; rw [hx0] at hj; cases hj; exact hc20_102 (lt255.mpr hx)
      have K104 : Keep h0 h103 [b] := ((Keep.refl h0 [b]).wr W103 (Or.inl (by simp)))
      have O105 : Ext Z.heap h103 := (Ext.wr O0 W103 hnb)
      have c106 : AL Z h103 a ka .char (ch16 cs) := (AL.other W103 A0 hne)
      refine ih (n + 1) _ _ _ _ _ hRc hRs ((vs.set n (.int x.toInt8.toInt32))) ((.val (.int x))) (by omega) (by omega) (by simp [hvs]) (One.val rfl) X103 e103 O105 c106 A103 N103 ?_
      intro T' L' h' i' y' X' e' K' j0  N'
      exact K T' L' h' i' y' X' e' (K104.trans K' (allS (Or.inl (by simp)) all0)) j0  N'
def Q_cmJ (Z : State) (a : Addr) (b : Addr) (ka : ClassId) (kb : ClassId) (cs : List Int32) (j : Nat) (xj : Int32) (vs0 : List Value) (h0 : Heap) (rv : Option Value) (h : Heap) (L : List Loc) : Prop := rv = some (.int j.toInt32) ∧ Fr Z.heap.size L ∧ Keep h0 h [b]
theorem rm_cmJ (l : Launch) (Z : State) (a0 : Array Value) (hw : ∀ d ∈ tables_1, d.before a0 Z = true) (a : Addr) (b : Addr) (ka : ClassId) (kb : ClassId) (cs : List Int32) (j : Nat) (xj : Int32) (vs0 : List Value) (h0 : Heap) (O0 : Ext Z.heap h0) (A0 : AL Z h0 a ka .char (ch16 cs)) (B0 : AL Z h0 b kb .byte vs0) (hl : cs.length ≤ 18) (hj : cs[j]? = some xj) (hx : 255 < xj.toInt) (hx2 : xj.toInt ≤ 65535) (hb : ∀ i x, i < j → cs[i]? = some x → x.toInt ≤ 255) (hv0 : vs0.length = cs.length) (hnb : Z.heap.size ≤ b) (hne : a ≠ b) :
    Met1 l Z mN14 jdk_52_method_21_code 7 (some .int) ({ frames := 0, cells := 0, slots := 0, locals := 0 } : Room) #[(.ref a), (.int (0 : Int32)), (.ref b), (.int (0 : Int32)), (.int cs.length.toInt32)] h0 (Q_cmJ Z a b ka kb cs j xj vs0 h0) := by
  refine Met1.of_body (Ls := #[.val (.ref a), .val (.int (0 : Int32)), .val (.ref b), .val (.int (0 : Int32)), .val (.int cs.length.toInt32), .unset, .unset]) pf_6 (fun m => by first | (simp [entryFrame, mkF, argsToLocals, Value.category]; done) | rfl) ?_
  intro p e s m below meth c T0 C X0 e0
  have N0 : Fr Z.heap.size [] := Fr.nil _
  refine Go.iconst (z := (0 : Int32)) (pc' := 1) C X0 d6_0 rfl rfl ?_
  refine Go.istore (Ls' := #[.val (.ref a), .val (.int (0 : Int32)), .val (.ref b), .val (.int (0 : Int32)), .val (.int cs.length.toInt32), .val (.int (0 : Int32)), .unset]) (pc' := 3) C X0 d6_1 rfl rfl ?_
  refine lp_cj hw a b ka kb cs j xj C (by decide) (by decide) hl hj hx hx2 hb hnb hne (j + 1) 0 _ _ _ _ _ (by decide) (by decide) vs0 .unset (by omega) (by omega) hv0 One.u X0 e0 O0 A0 B0 N0 ?_
  intro T101 L101 h101 i101 y101 X101 e101 K101 j101_0  N101
  refine Go.iload (pc' := 25) C X101 d6_23 rfl rfl ?_
  have K102 : Keep h0 h101 [b] := ((Keep.refl h0 [b]).trans K101 (allS (Or.inl (by simp)) all0))
  exact Go.retI C X101 rfl d6_25 (by rw [e101]; exact ⟨(congrArg (fun z => some (Value.int z)) j101_0), N101, K102⟩) (by decide) (by decide)
theorem pf_16 : plainFor mN17 = true := plainFor_of_name (by first | (simp [plainName, overriddenIn]; done) | decide +kernel)
theorem d16_0 : decode jdk_52_method_3_code 0 = .ok (.iload_n 0, 1) := by decide +kernel
theorem d16_1 : decode jdk_52_method_3_code 1 = .ok (.ifCond .ge 11, 3) := by decide +kernel
theorem d16_12 : decode jdk_52_method_3_code 12 = .ok (.iload_n 0, 1) := by decide +kernel
theorem d16_13 : decode jdk_52_method_3_code 13 = .ok (.ldc 20, 2) := by decide +kernel
theorem d16_15 : decode jdk_52_method_3_code 15 = .ok (.if_icmp .lt 40, 3) := by decide +kernel
theorem d16_55 : decode jdk_52_method_3_code 55 = .ok (.iload_n 0, 1) := by decide +kernel
theorem d16_56 : decode jdk_52_method_3_code 56 = .ok (.iconst 1, 1) := by decide +kernel
theorem d16_57 : decode jdk_52_method_3_code 57 = .ok (.ishl, 1) := by decide +kernel
theorem d16_58 : decode jdk_52_method_3_code 58 = .ok (.ireturn, 1) := by decide +kernel
def Q_nbl (Z : State) (N : Nat) (h0 : Heap) (rv : Option Value) (h : Heap) (L : List Loc) : Prop := rv = some (.int (2 * N).toInt32) ∧ L = [] ∧ h = h0
theorem rm_nbl (l : Launch) (Z : State) (a0 : Array Value) (hw : ∀ d ∈ tables_1, d.before a0 Z = true) (N : Nat) (h0 : Heap) (O0 : Ext Z.heap h0) (hN : N ≤ 18) :
    Met1 l Z mN17 jdk_52_method_3_code 1 (some .int) ({ frames := 0, cells := 0, slots := 0, locals := 0 } : Room) #[(.int N.toInt32)] h0 (Q_nbl Z N h0) := by
  refine Met1.of_body (Ls := #[.val (.int N.toInt32)]) pf_16 (fun m => by first | (simp [entryFrame, mkF, argsToLocals, Value.category]; done) | rfl) ?_
  intro p e s m below meth c T0 C X0 e0
  have N0 : Fr Z.heap.size [] := Fr.nil _
  refine Go.iloadN (pc' := 1) C X0 d16_0 rfl rfl ?_
  refine Go.ifYes (pc' := 12) C X0 d16_1 ((if0 _ _).trans (flt (x := N.toInt32) (y := (0 : Int32)) (n32_neg (by omega))).2.1) (by decide) (by decide) ?_
  refine Go.iloadN (pc' := 13) C X0 d16_12 rfl rfl ?_
  refine Go.ldcI (pc' := 15) C X0 d16_13 (tw hw 91 rfl) rfl ?_
  refine Go.icmpYes (pc' := 55) C X0 d16_15 (tlt (x := N.toInt32) (y := (1073741823 : Int32)) (by rw [Int32.lt_iff_toInt_lt, n32_int (by omega)]; simp only [Int32.reduceToInt]; omega)).1 (by decide) (by decide) ?_
  refine Go.iloadN (pc' := 56) C X0 d16_55 rfl rfl ?_
  refine Go.iconst (z := (1 : Int32)) (pc' := 57) C X0 d16_56 rfl rfl ?_
  refine Go.ishl (pc' := 58) C X0 d16_57 rfl ?_
  exact Go.retI C X0 rfl d16_58 (by rw [e0]; exact ⟨(congrArg (fun z => some (Value.int z)) (sh1 N hN)), rfl, rfl⟩) (by decide) (by decide)
theorem pd_5 : parseMethodDescriptor "(I)I" = some ⟨[.int], some .int⟩ := by decide +kernel
theorem pf_15 : plainFor mN16 = true := plainFor_of_name (by first | (simp [plainName, overriddenIn]; done) | decide +kernel)
theorem d15_0 : decode jdk_52_method_2_code 0 = .ok (.iload_n 0, 1) := by decide +kernel
theorem d15_1 : decode jdk_52_method_2_code 1 = .ok (.invokestatic 11, 3) := by decide +kernel
theorem d15_4 : decode jdk_52_method_2_code 4 = .ok (.newarray .byte, 2) := by decide +kernel
theorem d15_6 : decode jdk_52_method_2_code 6 = .ok (.areturn, 1) := by decide +kernel
def Q_nbf (Z : State) (N : Nat) (h0 : Heap) (rv : Option Value) (h : Heap) (L : List Loc) : Prop := ∃ b : Addr, ∃ kb : ClassId, rv = some (.ref b) ∧ Fr Z.heap.size L ∧ Keep h0 h [] ∧ h0.size ≤ b ∧ AL Z h b kb .byte (by8 (List.replicate (2 * N) 0))
theorem rm_nbf (l : Launch) (Z : State) (a0 : Array Value) (hw : ∀ d ∈ tables_1, d.before a0 Z = true) (N : Nat) (h0 : Heap) (O0 : Ext Z.heap h0) (hN : N ≤ 18) :
    Met1 l Z mN16 jdk_52_method_2_code 1 (some (.array .byte)) ({ frames := 1, cells := 1, slots := 36, locals := 12 } : Room) #[(.int N.toInt32)] h0 (Q_nbf Z N h0) := by
  refine Met1.of_body (Ls := #[.val (.int N.toInt32)]) pf_15 (fun m => by first | (simp [entryFrame, mkF, argsToLocals, Value.category]; done) | rfl) ?_
  intro p e s m below meth c T0 C X0 e0
  have N0 : Fr Z.heap.size [] := Fr.nil _
  refine Go.iloadN (pc' := 1) C X0 d15_0 rfl rfl ?_
  refine Go.callS (y := mN17) (pc' := 4) C X0 (tw hw 88 rfl) (tw hw 89 rfl) (by decide) (rm_nbl l Z a0 hw N h0 O0 hN) (tw hw 90 rfl) (tw hw 22 rfl) e0 (argsL := [(.int N.toInt32)]) (rest := []) (W := 0) rfl rfl pd_5 rfl (Nat.le_of_eq rfl) rfl (by decide) (by decide) (by decide) (by decide) d15_1 rfl ?_
  intro T101 v101 L101 X101 q101
  obtain ⟨rfl, rfl, e101⟩ := q101
  have N101 := Fr.app N0 (Fr.nil _)
  refine Go.newP (aty := .byte) (cap := 36) (vs := (by8 (List.replicate (2 * N) 0))) (ad := "[B") (pc' := 6) C X101 (by decide) (tw hw 24 rfl) e101 (n32_neg (by omega)) (by rw [n32_nat (by omega)]; omega) (by decide) (by decide) (by decide) (by rw [n32_nat (by omega)]; exact by8_rep _) d15_4 rfl ?_
  intro T102 h102 b102 k102 X102 e102 g102 E102 A102 Ea102
  have n_b102 : Z.heap.size ≤ b102 := Nat.le_trans O0.1 (Nat.le_of_eq g102.symm)
  have z_b102 : h0.size ≤ b102 := Nat.le_trans (Nat.le_refl _) (Nat.le_of_eq g102.symm)
  have A102 : AL Z h102 b102 k102 .byte (by8 (List.replicate (2 * N) 0)) := A102
  have K103 : Keep h0 h102 [] := ((Keep.refl h0 []).ext E102)
  exact Go.retA C X102 rfl d15_6 rfl rfl rfl (by rw [e102]; exact ⟨b102, k102, rfl, N101, K103, z_b102, A102⟩) (by decide) (by decide)
theorem pf_17 : plainFor mN18 = true := plainFor_of_name (by first | (simp [plainName, overriddenIn]; done) | decide +kernel)
theorem d17_0 : decode jdk_52_method_4_code 0 = .ok (.getstatic 44, 3) := by decide +kernel
theorem d17_3 : decode jdk_52_method_4_code 3 = .ok (.ifCond .ne 25, 3) := by decide +kernel
theorem d17_28 : decode jdk_52_method_4_code 28 = .ok (.iload_n 1, 1) := by decide +kernel
theorem d17_29 : decode jdk_52_method_4_code 29 = .ok (.iconst 1, 1) := by decide +kernel
theorem d17_30 : decode jdk_52_method_4_code 30 = .ok (.ishl, 1) := by decide +kernel
theorem d17_31 : decode jdk_52_method_4_code 31 = .ok (.istore_n 1, 1) := by decide +kernel
theorem d17_32 : decode jdk_52_method_4_code 32 = .ok (.aload_n 0, 1) := by decide +kernel
theorem d17_33 : decode jdk_52_method_4_code 33 = .ok (.iload_n 1, 1) := by decide +kernel
theorem d17_34 : decode jdk_52_method_4_code 34 = .ok (.iinc 1 1, 3) := by decide +kernel
theorem d17_37 : decode jdk_52_method_4_code 37 = .ok (.iload_n 2, 1) := by decide +kernel
theorem d17_38 : decode jdk_52_method_4_code 38 = .ok (.getstatic 59, 3) := by decide +kernel
theorem d17_41 : decode jdk_52_method_4_code 41 = .ok (.ishr, 1) := by decide +kernel
theorem d17_42 : decode jdk_52_method_4_code 42 = .ok (.i2b, 1) := by decide +kernel
theorem d17_43 : decode jdk_52_method_4_code 43 = .ok (.bastore, 1) := by decide +kernel
theorem d17_44 : decode jdk_52_method_4_code 44 = .ok (.aload_n 0, 1) := by decide +kernel
theorem d17_45 : decode jdk_52_method_4_code 45 = .ok (.iload_n 1, 1) := by decide +kernel
theorem d17_46 : decode jdk_52_method_4_code 46 = .ok (.iload_n 2, 1) := by decide +kernel
theorem d17_47 : decode jdk_52_method_4_code 47 = .ok (.getstatic 63, 3) := by decide +kernel
theorem d17_50 : decode jdk_52_method_4_code 50 = .ok (.ishr, 1) := by decide +kernel
theorem d17_51 : decode jdk_52_method_4_code 51 = .ok (.i2b, 1) := by decide +kernel
theorem d17_52 : decode jdk_52_method_4_code 52 = .ok (.bastore, 1) := by decide +kernel
theorem d17_53 : decode jdk_52_method_4_code 53 = .ok (.return_, 1) := by decide +kernel
def Q_puc (Z : State) (b : Addr) (kb : ClassId) (ys : List Int32) (n : Nat) (x : Int32) (h0 : Heap) (rv : Option Value) (h : Heap) (L : List Loc) : Prop := rv = none ∧ Fr Z.heap.size L ∧ Keep h0 h [b] ∧ AL Z h b kb .byte (by8 (put2 ys n x))
theorem rm_puc (l : Launch) (Z : State) (a0 : Array Value) (hw : ∀ d ∈ tables_1, d.before a0 Z = true) (b : Addr) (kb : ClassId) (ys : List Int32) (n : Nat) (x : Int32) (h0 : Heap) (O0 : Ext Z.heap h0) (B0 : AL Z h0 b kb .byte (by8 ys)) (SH : Sta Z Z.heap "java/lang/StringUTF16" "HI_BYTE_SHIFT" "I" (.int (0 : Int32))) (SLo : Sta Z Z.heap "java/lang/StringUTF16" "LO_BYTE_SHIFT" "I" (.int (8 : Int32))) (SAd : Sta Z Z.heap "java/lang/StringUTF16" "$assertionsDisabled" "Z" (.int (1 : Int32))) (hn : n ≤ 17) (hy : 2 * n + 1 < ys.length) (hnb : Z.heap.size ≤ b) :
    Met1 l Z mN18 jdk_52_method_4_code 3 none ({ frames := 0, cells := 0, slots := 0, locals := 0 } : Room) #[(.ref b), (.int n.toInt32), (.int x)] h0 (Q_puc Z b kb ys n x h0) := by
  refine Met1.of_body (Ls := #[.val (.ref b), .val (.int n.toInt32), .val (.int x)]) pf_17 (fun m => by first | (simp [entryFrame, mkF, argsToLocals, Value.category]; done) | rfl) ?_
  intro p e s m below meth c T0 C X0 e0
  have N0 : Fr Z.heap.size [] := Fr.nil _
  refine Go.getS (pc' := 3) (host := "") C X0 (Or.inl (tw hw 95 rfl)) Via.refl e0 (SAd.ext O0) d17_0 rfl ?_
  intro T101 X101 e101
  refine Go.ifYes (pc' := 28) C X101 d17_3 ((if0 _ _).trans (feq (x := (1 : Int32)) (y := (0 : Int32)) (by decide)).2) (by decide) (by decide) ?_
  refine Go.iloadN (pc' := 29) C X101 d17_28 rfl rfl ?_
  refine Go.iconst (z := (1 : Int32)) (pc' := 30) C X101 d17_29 rfl rfl ?_
  refine Go.ishl (pc' := 31) C X101 d17_30 rfl ?_
  refine Go.istoreN (Ls' := #[.val (.ref b), .val (.int (n.toInt32 <<< ((1 : Int32) &&& 31))), .val (.int x)]) (pc' := 32) C X101 d17_31 rfl rfl ?_
  rw [sh1 n (by omega)]
  refine Go.aloadN (pc' := 33) C X101 d17_32 rfl rfl rfl ?_
  refine Go.iloadN (pc' := 34) C X101 d17_33 rfl rfl ?_
  refine Go.iinc (Ls' := #[.val (.ref b), .val (.int ((2 * n).toInt32 + (1 : Int32))), .val (.int x)]) (z := (1 : Int32)) (pc' := 37) C X101 d17_34 rfl rfl rfl rfl ?_
  rw [n32_succ]
  refine Go.iloadN (pc' := 38) C X101 d17_37 rfl rfl ?_
  refine Go.getS (pc' := 41) (host := "") C X101 (Or.inl (tw hw 96 rfl)) Via.refl e101 (SH.ext O0) d17_38 rfl ?_
  intro T103 X103 e103
  refine Go.ishr (pc' := 42) C X103 d17_41 rfl ?_
  refine Go.i2b (pc' := 43) C X103 d17_42 rfl ?_
  refine Go.stB (i := (2 * n)) (x' := ((x >>> ((0 : Int32) &&& 31)).toInt8.toInt32)) (vs' := (by8 (ys.set (2 * n) (x >>> ((0 : Int32) &&& 31))))) (pc' := 44) C X103 e103 B0 (n32_neg (by omega)) (n32_nat (by omega)) (by rw [by8_len]; omega) (nar_byte8 _) (by8_set _ _ _) d17_43 rfl ?_
  intro T104 h104 X104 e104 W104 A104
  have N104 := Fr.snoc X104 N0 hnb
  refine Go.aloadN (pc' := 45) C X104 d17_44 rfl rfl rfl ?_
  refine Go.iloadN (pc' := 46) C X104 d17_45 rfl rfl ?_
  refine Go.iloadN (pc' := 47) C X104 d17_46 rfl rfl ?_
  have O106 : Ext Z.heap h104 := (Ext.wr O0 W104 hnb)
  refine Go.getS (pc' := 50) (host := "") C X104 (Or.inl (tw hw 97 rfl)) Via.refl e104 (SLo.ext O106) d17_47 rfl ?_
  intro T105 X105 e105
  refine Go.ishr (pc' := 51) C X105 d17_50 rfl ?_
  refine Go.i2b (pc' := 52) C X105 d17_51 rfl ?_
  refine Go.stB (i := (2 * n + 1)) (x' := ((x >>> ((8 : Int32) &&& 31)).toInt8.toInt32)) (vs' := (by8 (put2 ys n x))) (pc' := 53) C X105 e105 A104 (n32_neg (by omega)) (n32_nat (by omega)) (by rw [by8_len]; simp; omega) (nar_byte8 _) (by8_set _ _ _) d17_52 rfl ?_
  intro T107 h107 X107 e107 W107 A107
  have N107 := Fr.snoc X107 N104 hnb
  have K108 : Keep h0 h107 [b] := (((Keep.refl h0 [b]).wr W104 (Or.inl (by simp))).wr W107 (Or.inl (by simp)))
  exact Go.retV C X107 rfl d17_53 (by rw [e107]; exact ⟨rfl, N107, K108, A107⟩) (by decide) (by decide)
theorem pd_6 : parseMethodDescriptor "([BII)V" = some ⟨[(.array .byte), .int, .int], none⟩ := by decide +kernel
theorem d14_8 : decode jdk_52_method_14_code 8 = .ok (.iload 4, 2) := by decide +kernel
theorem d14_10 : decode jdk_52_method_14_code 10 = .ok (.iload_n 2, 1) := by decide +kernel
theorem d14_11 : decode jdk_52_method_14_code 11 = .ok (.if_icmp .ge 21, 3) := by decide +kernel
theorem d14_14 : decode jdk_52_method_14_code 14 = .ok (.aload_n 3, 1) := by decide +kernel
theorem d14_15 : decode jdk_52_method_14_code 15 = .ok (.iload 4, 2) := by decide +kernel
theorem d14_17 : decode jdk_52_method_14_code 17 = .ok (.aload_n 0, 1) := by decide +kernel
theorem d14_18 : decode jdk_52_method_14_code 18 = .ok (.iload_n 1, 1) := by decide +kernel
theorem d14_19 : decode jdk_52_method_14_code 19 = .ok (.caload, 1) := by decide +kernel
theorem d14_20 : decode jdk_52_method_14_code 20 = .ok (.invokestatic 111, 3) := by decide +kernel
theorem d14_23 : decode jdk_52_method_14_code 23 = .ok (.iinc 1 1, 3) := by decide +kernel
theorem d14_26 : decode jdk_52_method_14_code 26 = .ok (.iinc 4 1, 3) := by decide +kernel
theorem d14_29 : decode jdk_52_method_14_code 29 = .ok (.goto (-21), 3) := by decide +kernel
theorem lp_tb {p : Program} {l : Launch} {e : Env} {R : Room} {s : State} {m : MethodId} {args : Array Value} {below : List Frame} {meth : Method} {c : Code} {Z : State} {a0 : Array Value} {Fin' : Outcome → State → Prop} (hw : ∀ d ∈ tables_1, d.before a0 Z = true) (a : Addr) (b : Addr) (ka : ClassId) (kb : ClassId) (cs : List Int32) (j : Nat) (xj : Int32) (C : Cx p s m meth c Z "java/lang/StringUTF16" "toBytes" jdk_52_method_14_code 5 (some (.array .byte))) (hRf : 1 ≤ R.frames) (hRl : 14 ≤ R.locals) (hl : cs.length ≤ 18) (hj : cs[j]? = some xj) (hnb : Z.heap.size ≤ b) (hne : a ≠ b) :
    ∀ (k n : Nat) (T0 : State) (L0 : List Loc) (cells slots : Nat) (h0 : Heap), cells ≤ R.cells → slots ≤ R.slots → ∀ (ys : List Int32), (n + k = cs.length + 1) → (n ≤ cs.length) → (ys.length = 2 * cs.length) → (j < n → Two ys j xj) → Stand p l e R s m args below meth c T0 L0 cells slots → T0.heap = h0 → Ext Z.heap h0 → (AL Z h0 a ka .char (ch16 cs)) → (AL Z h0 b kb .byte (by8 ys)) → (Sta Z Z.heap "java/lang/StringUTF16" "HI_BYTE_SHIFT" "I" (.int (0 : Int32))) → (Sta Z Z.heap "java/lang/StringUTF16" "LO_BYTE_SHIFT" "I" (.int (8 : Int32))) → (Sta Z Z.heap "java/lang/StringUTF16" "$assertionsDisabled" "Z" (.int (1 : Int32))) → Fr Z.heap.size L0 →
      (∀ (T' : State) (L' : List Loc) (h' : Heap) (ys' : List Int32) (i' : Int32), Stand p l e R s m args below meth c T' L' cells slots → T'.heap = h' → Keep h0 h' [b] → (ys'.length = 2 * cs.length) → (Two ys' j xj) → (AL Z h' b kb .byte (by8 ys')) → Fr Z.heap.size L' → Go p e below Fin' T' (mkF m 32 #[.val (.ref a), .val (.int i'), .val (.int cs.length.toInt32), .val (.ref b), .val (.int i')] [])) →
      Go p e below Fin' T0 (mkF m 8 #[.val (.ref a), .val (.int n.toInt32), .val (.int cs.length.toInt32), .val (.ref b), .val (.int n.toInt32)] []) := by
  intro k
  induction k with
  | zero =>
    intro n T0 L0 cells slots h0 hRc hRs ys hkn hle hys hc X0 e0 O0 A0 B0 SH SLo SAd N0 K
    exact absurd hkn (by omega)
  | succ k ih =>
    intro n T0 L0 cells slots h0 hRc hRs ys hkn hle hys hc X0 e0 O0 A0 B0 SH SLo SAd N0 K
    refine Go.iload (pc' := 10) C X0 d14_8 rfl rfl ?_
    refine Go.iloadN (pc' := 11) C X0 d14_10 rfl rfl ?_
    by_cases hc11_101 : n.toInt32 < cs.length.toInt32
    · refine Go.icmpNo (pc' := 14) C X0 d14_11 (tlt (x := n.toInt32) (y := cs.length.toInt32) hc11_101).2.1 rfl ?_
      have hlt := (n32_lt (by omega) (by omega)).mp hc11_101
      obtain ⟨x, hx0⟩ : ∃ x, cs[n]? = some x := ⟨_, List.getElem?_eq_getElem hlt⟩
      refine Go.aloadN (pc' := 15) C X0 d14_14 rfl rfl rfl ?_
      refine Go.iload (pc' := 17) C X0 d14_15 rfl rfl ?_
      refine Go.aloadN (pc' := 18) C X0 d14_17 rfl rfl rfl ?_
      refine Go.iloadN (pc' := 19) C X0 d14_18 rfl rfl ?_
      refine Go.ldC (i := n) (v := (.int x)) (pc' := 20) C X0 e0 A0 (n32_neg (by omega)) (n32_nat (by omega)) (by simp [ch16, hx0]) d14_19 rfl ?_
      refine Go.callS (y := mN18) (pc' := 23) C X0 (tw hw 92 rfl) (tw hw 93 rfl) (by decide) (rm_puc l Z a0 hw b kb ys n x h0 O0 B0 SH SLo SAd (by omega) (by omega) hnb) (tw hw 94 rfl) (tw hw 22 rfl) e0 (argsL := [(.ref b), (.int n.toInt32), (.int x)]) (rest := []) (W := 0) rfl rfl pd_6 rfl (Nat.le_of_eq rfl) rfl (Nat.le_trans (by decide) hRf) (Nat.le_trans (by decide) hRl) hRc hRs d14_20 rfl ?_
      intro T102 v102 L102 X102 q102
      obtain ⟨rfl, N102q, K102, P102_0⟩ := q102
      have N102 := Fr.app N0 N102q
      refine Go.iinc (Ls' := #[.val (.ref a), .val (.int (n.toInt32 + (1 : Int32))), .val (.int cs.length.toInt32), .val (.ref b), .val (.int n.toInt32)]) (z := (1 : Int32)) (pc' := 26) C X102 d14_23 rfl rfl rfl rfl ?_
      refine Go.iinc (Ls' := #[.val (.ref a), .val (.int (n.toInt32 + (1 : Int32))), .val (.int cs.length.toInt32), .val (.ref b), .val (.int (n.toInt32 + (1 : Int32)))]) (z := (1 : Int32)) (pc' := 29) C X102 d14_26 rfl rfl rfl rfl ?_
      refine Go.goto (pc' := 8) C X102 d14_29 (by decide) (by decide) ?_
      rw [n32_succ]
      have K103 : Keep h0 T102.heap [b] := ((Keep.refl h0 [b]).trans K102 (allS (Or.inl (by simp)) all0))
      have O104 : Ext Z.heap T102.heap := (Ext.keep O0 K102 (allS hnb all0))
      have c105 : AL Z T102.heap a ka .char (ch16 cs) := (AL.keep A0 K102 (ninS hne nin0))
      refine ih (n + 1) _ _ _ _ _ hRc hRs ((put2 ys n x)) (by omega) (by omega) (by rw [put2_len]; exact hys) (put2_two (by omega) (fun e => by subst e; rw [hx0] at hj; cases hj; rfl) hc) X102 rfl O104 c105 P102_0 SH SLo SAd N102 ?_
      intro T' L' h' ys' i' X' e' K' j0 j1 P0 N'
      exact K T' L' h' ys' i' X' e' (K103.trans K' (allS (Or.inl (by simp)) all0)) j0 j1 P0 N'
    · refine Go.icmpYes (pc' := 32) C X0 d14_11 (flt (x := n.toInt32) (y := cs.length.toInt32) hc11_101).2.1 (by decide) (by decide) ?_
      have hnl : n = cs.length := Nat.le_antisymm hle (Nat.le_of_not_lt fun q => hc11_101 ((n32_lt (by omega) (by omega)).mpr q))
      exact K _ _ _ ys n.toInt32 X0 e0 (Keep.refl h0 [b]) hys (hc (by have := jlt hj; omega)) B0 N0
theorem pd_7 : parseMethodDescriptor "(I)[B" = some ⟨[.int], some (.array .byte)⟩ := by decide +kernel
theorem pf_14 : plainFor mN19 = true := plainFor_of_name (by first | (simp [plainName, overriddenIn]; done) | decide +kernel)
theorem d14_0 : decode jdk_52_method_14_code 0 = .ok (.iload_n 2, 1) := by decide +kernel
theorem d14_1 : decode jdk_52_method_14_code 1 = .ok (.invokestatic 107, 3) := by decide +kernel
theorem d14_4 : decode jdk_52_method_14_code 4 = .ok (.astore_n 3, 1) := by decide +kernel
theorem d14_5 : decode jdk_52_method_14_code 5 = .ok (.iconst 0, 1) := by decide +kernel
theorem d14_6 : decode jdk_52_method_14_code 6 = .ok (.istore 4, 2) := by decide +kernel
theorem d14_32 : decode jdk_52_method_14_code 32 = .ok (.aload_n 3, 1) := by decide +kernel
theorem d14_33 : decode jdk_52_method_14_code 33 = .ok (.areturn, 1) := by decide +kernel
def Q_tob (Z : State) (a : Addr) (ka : ClassId) (cs : List Int32) (j : Nat) (xj : Int32) (h0 : Heap) (rv : Option Value) (h : Heap) (L : List Loc) : Prop := ∃ b : Addr, ∃ kb : ClassId, ∃ ys : List Int32, rv = some (.ref b) ∧ Fr Z.heap.size L ∧ Keep h0 h [] ∧ h0.size ≤ b ∧ AL Z h b kb .byte (by8 ys) ∧ (ys.length = 2 * cs.length) ∧ (Two ys j xj)
theorem rm_tob (l : Launch) (Z : State) (a0 : Array Value) (hw : ∀ d ∈ tables_1, d.before a0 Z = true) (a : Addr) (ka : ClassId) (cs : List Int32) (j : Nat) (xj : Int32) (h0 : Heap) (O0 : Ext Z.heap h0) (A0 : AL Z h0 a ka .char (ch16 cs)) (SH : Sta Z Z.heap "java/lang/StringUTF16" "HI_BYTE_SHIFT" "I" (.int (0 : Int32))) (SLo : Sta Z Z.heap "java/lang/StringUTF16" "LO_BYTE_SHIFT" "I" (.int (8 : Int32))) (SAd : Sta Z Z.heap "java/lang/StringUTF16" "$assertionsDisabled" "Z" (.int (1 : Int32))) (hl : cs.length ≤ 18) (hj : cs[j]? = some xj) :
    Met1 l Z mN19 jdk_52_method_14_code 5 (some (.array .byte)) ({ frames := 2, cells := 1, slots := 36, locals := 24 } : Room) #[(.ref a), (.int (0 : Int32)), (.int cs.length.toInt32)] h0 (Q_tob Z a ka cs j xj h0) := by
  refine Met1.of_body (Ls := #[.val (.ref a), .val (.int (0 : Int32)), .val (.int cs.length.toInt32), .unset, .unset]) pf_14 (fun m => by first | (simp [entryFrame, mkF, argsToLocals, Value.category]; done) | rfl) ?_
  intro p e s m below meth c T0 C X0 e0
  have N0 : Fr Z.heap.size [] := Fr.nil _
  refine Go.iloadN (pc' := 1) C X0 d14_0 rfl rfl ?_
  refine Go.callS (y := mN16) (pc' := 4) C X0 (tw hw 85 rfl) (tw hw 86 rfl) (by decide) (rm_nbf l Z a0 hw cs.length h0 O0 hl) (tw hw 87 rfl) (tw hw 22 rfl) e0 (argsL := [(.int cs.length.toInt32)]) (rest := []) (W := 0) rfl rfl pd_7 rfl (Nat.le_of_eq rfl) rfl (by decide) (by decide) (by decide) (by decide) d14_1 rfl ?_
  intro T101 v101 L101 X101 q101
  obtain ⟨b_101, kb_101, rfl, N101q, K101, B101_0, P101_0⟩ := q101
  have N101 := Fr.app N0 N101q
  have n_b_101 : Z.heap.size ≤ b_101 := Nat.le_trans O0.1 B101_0
  have z_b_101 : h0.size ≤ b_101 := Nat.le_trans (Nat.le_refl _) B101_0
  refine Go.astoreN (Ls' := #[.val (.ref a), .val (.int (0 : Int32)), .val (.int cs.length.toInt32), .val (.ref b_101), .unset]) (pc' := 5) C X101 d14_4 rfl rfl rfl ?_
  refine Go.iconst (z := (0 : Int32)) (pc' := 6) C X101 d14_5 rfl rfl ?_
  refine Go.istore (Ls' := #[.val (.ref a), .val (.int (0 : Int32)), .val (.int cs.length.toInt32), .val (.ref b_101), .val (.int (0 : Int32))]) (pc' := 8) C X101 d14_6 rfl rfl ?_
  have ne102 : a ≠ b_101 := Nat.ne_of_lt (Nat.lt_of_lt_of_le A0.lt (Nat.le_trans (Nat.le_refl _) B101_0))
  have c103 : AL Z T101.heap a ka .char (ch16 cs) := (AL.keep A0 K101 nin0)
  have O105 : Ext Z.heap T101.heap := (Ext.keep O0 K101 all0)
  refine lp_tb hw a b_101 ka kb_101 cs j xj C (by decide) (by decide) hl hj n_b_101 ne102 (cs.length + 1) 0 _ _ _ _ _ (by decide) (by decide) (List.replicate (2 * cs.length) 0) (by omega) (by omega) (by simp) (fun q => absurd q (by omega)) X101 rfl O105 c103 P101_0 SH SLo SAd N101 ?_
  intro T104 L104 h104 ys104 i104 X104 e104 K104 j104_0 j104_1 P104_0 N104
  refine Go.aloadN (pc' := 33) C X104 d14_32 rfl rfl rfl ?_
  have K106 : Keep h0 h104 [] := (((Keep.refl h0 []).trans K101 all0).trans K104 (allS (Or.inr z_b_101) all0))
  exact Go.retA C X104 rfl d14_33 rfl rfl rfl (by rw [e104]; exact ⟨b_101, kb_101, ys104, rfl, N104, K106, z_b_101, P104_0, j104_0, j104_1⟩) (by decide) (by decide)
theorem pf_18 : plainFor mN15 = true := plainFor_of_name (by first | (simp [plainName, overriddenIn]; done) | decide +kernel)
theorem d18_0 : decode jdk_52_method_5_code 0 = .ok (.getstatic 44, 3) := by decide +kernel
theorem d18_3 : decode jdk_52_method_5_code 3 = .ok (.ifCond .ne 25, 3) := by decide +kernel
theorem d18_28 : decode jdk_52_method_5_code 28 = .ok (.iload_n 1, 1) := by decide +kernel
theorem d18_29 : decode jdk_52_method_5_code 29 = .ok (.iconst 1, 1) := by decide +kernel
theorem d18_30 : decode jdk_52_method_5_code 30 = .ok (.ishl, 1) := by decide +kernel
theorem d18_31 : decode jdk_52_method_5_code 31 = .ok (.istore_n 1, 1) := by decide +kernel
theorem d18_32 : decode jdk_52_method_5_code 32 = .ok (.aload_n 0, 1) := by decide +kernel
theorem d18_33 : decode jdk_52_method_5_code 33 = .ok (.iload_n 1, 1) := by decide +kernel
theorem d18_34 : decode jdk_52_method_5_code 34 = .ok (.iinc 1 1, 3) := by decide +kernel
theorem d18_37 : decode jdk_52_method_5_code 37 = .ok (.baload, 1) := by decide +kernel
theorem d18_38 : decode jdk_52_method_5_code 38 = .ok (.sipush 255, 3) := by decide +kernel
theorem d18_41 : decode jdk_52_method_5_code 41 = .ok (.iand, 1) := by decide +kernel
theorem d18_42 : decode jdk_52_method_5_code 42 = .ok (.getstatic 59, 3) := by decide +kernel
theorem d18_45 : decode jdk_52_method_5_code 45 = .ok (.ishl, 1) := by decide +kernel
theorem d18_46 : decode jdk_52_method_5_code 46 = .ok (.aload_n 0, 1) := by decide +kernel
theorem d18_47 : decode jdk_52_method_5_code 47 = .ok (.iload_n 1, 1) := by decide +kernel
theorem d18_48 : decode jdk_52_method_5_code 48 = .ok (.baload, 1) := by decide +kernel
theorem d18_49 : decode jdk_52_method_5_code 49 = .ok (.sipush 255, 3) := by decide +kernel
theorem d18_52 : decode jdk_52_method_5_code 52 = .ok (.iand, 1) := by decide +kernel
theorem d18_53 : decode jdk_52_method_5_code 53 = .ok (.getstatic 63, 3) := by decide +kernel
theorem d18_56 : decode jdk_52_method_5_code 56 = .ok (.ishl, 1) := by decide +kernel
theorem d18_57 : decode jdk_52_method_5_code 57 = .ok (.ior, 1) := by decide +kernel
theorem d18_58 : decode jdk_52_method_5_code 58 = .ok (.i2c, 1) := by decide +kernel
theorem d18_59 : decode jdk_52_method_5_code 59 = .ok (.ireturn, 1) := by decide +kernel
def Q_gec (Z : State) (b : Addr) (kb : ClassId) (ys : List Int32) (j : Nat) (xj : Int32) (h0 : Heap) (rv : Option Value) (h : Heap) (L : List Loc) : Prop := ∃ r : Int32, rv = some (.int r) ∧ L = [] ∧ h = h0 ∧ ((255 : Int32) < r)
theorem rm_gec (l : Launch) (Z : State) (a0 : Array Value) (hw : ∀ d ∈ tables_1, d.before a0 Z = true) (b : Addr) (kb : ClassId) (ys : List Int32) (j : Nat) (xj : Int32) (h0 : Heap) (O0 : Ext Z.heap h0) (B0 : AL Z h0 b kb .byte (by8 ys)) (SH : Sta Z Z.heap "java/lang/StringUTF16" "HI_BYTE_SHIFT" "I" (.int (0 : Int32))) (SLo : Sta Z Z.heap "java/lang/StringUTF16" "LO_BYTE_SHIFT" "I" (.int (8 : Int32))) (SAd : Sta Z Z.heap "java/lang/StringUTF16" "$assertionsDisabled" "Z" (.int (1 : Int32))) (hj8 : j ≤ 17) (hT : Two ys j xj) (hx : 255 < xj.toInt) (hx2 : xj.toInt ≤ 65535) :
    Met1 l Z mN15 jdk_52_method_5_code 2 (some .char) ({ frames := 0, cells := 0, slots := 0, locals := 0 } : Room) #[(.ref b), (.int j.toInt32)] h0 (Q_gec Z b kb ys j xj h0) := by
  refine Met1.of_body (Ls := #[.val (.ref b), .val (.int j.toInt32)]) pf_18 (fun m => by first | (simp [entryFrame, mkF, argsToLocals, Value.category]; done) | rfl) ?_
  intro p e s m below meth c T0 C X0 e0
  have N0 : Fr Z.heap.size [] := Fr.nil _
  refine Go.getS (pc' := 3) (host := "") C X0 (Or.inl (tw hw 95 rfl)) Via.refl e0 (SAd.ext O0) d18_0 rfl ?_
  intro T101 X101 e101
  refine Go.ifYes (pc' := 28) C X101 d18_3 ((if0 _ _).trans (feq (x := (1 : Int32)) (y := (0 : Int32)) (by decide)).2) (by decide) (by decide) ?_
  refine Go.iloadN (pc' := 29) C X101 d18_28 rfl rfl ?_
  refine Go.iconst (z := (1 : Int32)) (pc' := 30) C X101 d18_29 rfl rfl ?_
  refine Go.ishl (pc' := 31) C X101 d18_30 rfl ?_
  refine Go.istoreN (Ls' := #[.val (.ref b), .val (.int (j.toInt32 <<< ((1 : Int32) &&& 31)))]) (pc' := 32) C X101 d18_31 rfl rfl ?_
  rw [sh1 j (by omega)]
  refine Go.aloadN (pc' := 33) C X101 d18_32 rfl rfl rfl ?_
  refine Go.iloadN (pc' := 34) C X101 d18_33 rfl rfl ?_
  refine Go.iinc (Ls' := #[.val (.ref b), .val (.int ((2 * j).toInt32 + (1 : Int32)))]) (z := (1 : Int32)) (pc' := 37) C X101 d18_34 rfl rfl rfl rfl ?_
  rw [n32_succ]
  refine Go.ldB (i := (2 * j)) (v := (.int (xj >>> ((0 : Int32) &&& 31)).toInt8.toInt32)) (pc' := 38) C X101 e101 B0 (n32_neg (by omega)) (n32_nat (by omega)) (by8_get hT.1) d18_37 rfl ?_
  refine Go.sipush (z := (255 : Int32)) (pc' := 41) C X101 d18_38 rfl rfl ?_
  refine Go.iand (pc' := 42) C X101 d18_41 rfl ?_
  refine Go.getS (pc' := 45) (host := "") C X101 (Or.inl (tw hw 96 rfl)) Via.refl e101 (SH.ext O0) d18_42 rfl ?_
  intro T103 X103 e103
  refine Go.ishl (pc' := 46) C X103 d18_45 rfl ?_
  refine Go.aloadN (pc' := 47) C X103 d18_46 rfl rfl rfl ?_
  refine Go.iloadN (pc' := 48) C X103 d18_47 rfl rfl ?_
  refine Go.ldB (i := (2 * j + 1)) (v := (.int (xj >>> ((8 : Int32) &&& 31)).toInt8.toInt32)) (pc' := 49) C X103 e103 B0 (n32_neg (by omega)) (n32_nat (by omega)) (by8_get hT.2) d18_48 rfl ?_
  refine Go.sipush (z := (255 : Int32)) (pc' := 52) C X103 d18_49 rfl rfl ?_
  refine Go.iand (pc' := 53) C X103 d18_52 rfl ?_
  refine Go.getS (pc' := 56) (host := "") C X103 (Or.inl (tw hw 97 rfl)) Via.refl e103 (SLo.ext O0) d18_53 rfl ?_
  intro T104 X104 e104
  refine Go.ishl (pc' := 57) C X104 d18_56 rfl ?_
  refine Go.ior (pc' := 58) C X104 d18_57 rfl ?_
  refine Go.i2c (pc' := 59) C X104 d18_58 rfl ?_
  exact Go.retN C X104 rfl d18_59 (by simp) (by rw [e104]; exact ⟨(nar .char (((((xj >>> ((0 : Int32) &&& 31)).toInt8.toInt32 &&& (255 : Int32)) <<< ((0 : Int32) &&& 31)) ||| (((xj >>> ((8 : Int32) &&& 31)).toInt8.toInt32 &&& (255 : Int32)) <<< ((8 : Int32) &&& 31))).toUInt32.toUInt16.toUInt32.toInt32)), rfl, rfl, rfl, (gcv hx hx2)⟩) (by decide) (by decide)
theorem pd_8 : parseMethodDescriptor "([BI)C" = some ⟨[(.array .byte), .int], some .char⟩ := by decide +kernel
theorem d5_20 : decode jdk_52_method_16_code 20 = .ok (.aload_n 0, 1) := by decide +kernel
theorem d5_21 : decode jdk_52_method_16_code 21 = .ok (.iload_n 1, 1) := by decide +kernel
theorem d5_22 : decode jdk_52_method_16_code 22 = .ok (.iload_n 2, 1) := by decide +kernel
theorem d5_23 : decode jdk_52_method_16_code 23 = .ok (.invokestatic 119, 3) := by decide +kernel
theorem d5_26 : decode jdk_52_method_16_code 26 = .ok (.astore 5, 2) := by decide +kernel
theorem d5_28 : decode jdk_52_method_16_code 28 = .ok (.aload 5, 2) := by decide +kernel
theorem d5_30 : decode jdk_52_method_16_code 30 = .ok (.iload 4, 2) := by decide +kernel
theorem d5_32 : decode jdk_52_method_16_code 32 = .ok (.invokestatic 71, 3) := by decide +kernel
theorem d5_35 : decode jdk_52_method_16_code 35 = .ok (.sipush 255, 3) := by decide +kernel
theorem d5_38 : decode jdk_52_method_16_code 38 = .ok (.if_icmp .gt 16, 3) := by decide +kernel
theorem d5_54 : decode jdk_52_method_16_code 54 = .ok (.aload 5, 2) := by decide +kernel
theorem d5_56 : decode jdk_52_method_16_code 56 = .ok (.areturn, 1) := by decide +kernel
def Q_cmU (Z : State) (a : Addr) (ka : ClassId) (cs : List Int32) (j : Nat) (xj : Int32) (h0 : Heap) (rv : Option Value) (h : Heap) (L : List Loc) : Prop := ∃ b : Addr, ∃ kb : ClassId, ∃ ys : List Int32, rv = some (.ref b) ∧ Fr Z.heap.size L ∧ Keep h0 h [] ∧ h0.size ≤ b ∧ AL Z h b kb .byte (by8 ys) ∧ (ys.length = 2 * cs.length)
theorem rm_cmU (l : Launch) (Z : State) (a0 : Array Value) (hw : ∀ d ∈ tables_1, d.before a0 Z = true) (a : Addr) (ka : ClassId) (cs : List Int32) (j : Nat) (xj : Int32) (h0 : Heap) (O0 : Ext Z.heap h0) (A0 : AL Z h0 a ka .char (ch16 cs)) (SH : Sta Z Z.heap "java/lang/StringUTF16" "HI_BYTE_SHIFT" "I" (.int (0 : Int32))) (SLo : Sta Z Z.heap "java/lang/StringUTF16" "LO_BYTE_SHIFT" "I" (.int (8 : Int32))) (SAd : Sta Z Z.heap "java/lang/StringUTF16" "$assertionsDisabled" "Z" (.int (1 : Int32))) (hl : cs.length ≤ 18) (hj : cs[j]? = some xj) (hx : 255 < xj.toInt) (hx2 : xj.toInt ≤ 65535) (hb : ∀ i x, i < j → cs[i]? = some x → x.toInt ≤ 255) :
    Met1 l Z mN13 jdk_52_method_16_code 6 (some (.array .byte)) ({ frames := 3, cells := 2, slots := 54, locals := 40 } : Room) #[(.ref a), (.int (0 : Int32)), (.int cs.length.toInt32)] h0 (Q_cmU Z a ka cs j xj h0) := by
  refine Met1.of_body (Ls := #[.val (.ref a), .val (.int (0 : Int32)), .val (.int cs.length.toInt32), .unset, .unset, .unset]) pf_5 (fun m => by first | (simp [entryFrame, mkF, argsToLocals, Value.category]; done) | rfl) ?_
  intro p e s m below meth c T0 C X0 e0
  have N0 : Fr Z.heap.size [] := Fr.nil _
  refine Go.iloadN (pc' := 1) C X0 d5_0 rfl rfl ?_
  refine Go.newP (aty := .byte) (cap := 18) (vs := (List.replicate cs.length (.int 0))) (ad := "[B") (pc' := 3) C X0 (by decide) (tw hw 24 rfl) e0 (n32_neg (by omega)) (by rw [n32_nat (by omega)]; exact hl) (by decide) (by decide) (by decide) (by rw [n32_nat (by omega)]; rfl) d5_1 rfl ?_
  intro T101 h101 b101 k101 X101 e101 g101 E101 A101 Ea101
  have n_b101 : Z.heap.size ≤ b101 := Nat.le_trans O0.1 (Nat.le_of_eq g101.symm)
  have z_b101 : h0.size ≤ b101 := Nat.le_trans (Nat.le_refl _) (Nat.le_of_eq g101.symm)
  have A101 : AL Z h101 b101 k101 .byte (List.replicate cs.length (.int 0)) := A101
  refine Go.astoreN (Ls' := #[.val (.ref a), .val (.int (0 : Int32)), .val (.int cs.length.toInt32), .val (.ref b101), .unset, .unset]) (pc' := 4) C X101 d5_3 rfl rfl rfl ?_
  refine Go.aloadN (pc' := 5) C X101 d5_4 rfl rfl rfl ?_
  refine Go.iloadN (pc' := 6) C X101 d5_5 rfl rfl ?_
  refine Go.aloadN (pc' := 7) C X101 d5_6 rfl rfl rfl ?_
  refine Go.iconst (z := (0 : Int32)) (pc' := 8) C X101 d5_7 rfl rfl ?_
  refine Go.iloadN (pc' := 9) C X101 d5_8 rfl rfl ?_
  have c103 : AL Z h101 a ka .char (ch16 cs) := (AL.ext E101 A0)
  have ne104 : a ≠ b101 := Nat.ne_of_lt (Nat.lt_of_lt_of_le A0.lt (Nat.le_trans (Nat.le_refl _) (Nat.le_of_eq g101.symm)))
  have O105 : Ext Z.heap h101 := (Ext.trans O0 E101)
  refine Go.callS (y := mN14) (pc' := 12) C X101 (tw hw 25 rfl) (tw hw 26 rfl) (by decide) (rm_cmJ l Z a0 hw a b101 ka k101 cs j xj ((List.replicate cs.length (.int 0))) h101 O105 c103 A101 hl hj hx hx2 hb (by simp) n_b101 ne104) (tw hw 27 rfl) (tw hw 22 rfl) e101 (argsL := [(.ref a), (.int (0 : Int32)), (.ref b101), (.int (0 : Int32)), (.int cs.length.toInt32)]) (rest := []) (W := 0) rfl rfl pd_0 rfl (Nat.le_of_eq rfl) rfl (by decide) (by decide) (by decide) (by decide) d5_9 rfl ?_
  intro T102 v102 L102 X102 q102
  obtain ⟨rfl, N102q, K102⟩ := q102
  have N102 := Fr.app N0 N102q
  refine Go.istore (Ls' := #[.val (.ref a), .val (.int (0 : Int32)), .val (.int cs.length.toInt32), .val (.ref b101), .val (.int j.toInt32), .unset]) (pc' := 14) C X102 d5_12 rfl rfl ?_
  refine Go.iload (pc' := 16) C X102 d5_14 rfl rfl ?_
  refine Go.iloadN (pc' := 17) C X102 d5_16 rfl rfl ?_
  refine Go.icmpNo (pc' := 20) C X102 d5_17 (feq (x := j.toInt32) (y := cs.length.toInt32) (fun q => absurd ((n32_eq (by have := jlt hj; omega) (by omega)).mp q) (by have := jlt hj; omega))).1 rfl ?_
  refine Go.aloadN (pc' := 21) C X102 d5_20 rfl rfl rfl ?_
  refine Go.iloadN (pc' := 22) C X102 d5_21 rfl rfl ?_
  refine Go.iloadN (pc' := 23) C X102 d5_22 rfl rfl ?_
  have c108 : AL Z T102.heap a ka .char (ch16 cs) := (AL.keep c103 K102 (ninS ne104 nin0))
  have O109 : Ext Z.heap T102.heap := (Ext.keep O105 K102 (allS n_b101 all0))
  refine Go.callS (y := mN19) (pc' := 26) C X102 (tw hw 82 rfl) (tw hw 83 rfl) (by decide) (rm_tob l Z a0 hw a ka cs j xj T102.heap O109 c108 SH SLo SAd hl hj) (tw hw 84 rfl) (tw hw 22 rfl) rfl (argsL := [(.ref a), (.int (0 : Int32)), (.int cs.length.toInt32)]) (rest := []) (W := 0) rfl rfl pd_1 rfl (Nat.le_of_eq rfl) rfl (by decide) (by decide) (by decide) (by decide) d5_23 rfl ?_
  intro T107 v107 L107 X107 q107
  obtain ⟨b_107, kb_107, ys_107, rfl, N107q, K107, B107_0, P107_0, p107_0, p107_1⟩ := q107
  have N107 := Fr.app N102 N107q
  have n_b_107 : Z.heap.size ≤ b_107 := Nat.le_trans O109.1 B107_0
  have z_b_107 : h0.size ≤ b_107 := Nat.le_trans (Nat.le_trans (Nat.le_trans (Nat.le_refl _) E101.1) K102.1) B107_0
  refine Go.astore (Ls' := #[.val (.ref a), .val (.int (0 : Int32)), .val (.int cs.length.toInt32), .val (.ref b101), .val (.int j.toInt32), .val (.ref b_107)]) (pc' := 28) C X107 d5_26 rfl rfl rfl ?_
  refine Go.aload (pc' := 30) C X107 d5_28 rfl rfl rfl ?_
  refine Go.iload (pc' := 32) C X107 d5_30 rfl rfl ?_
  have O111 : Ext Z.heap T107.heap := (Ext.keep O109 K107 all0)
  refine Go.callS (y := mN15) (pc' := 35) C X107 (tw hw 98 rfl) (tw hw 99 rfl) (by decide) (rm_gec l Z a0 hw b_107 kb_107 ys_107 j xj T107.heap O111 P107_0 SH SLo SAd (by have := jlt hj; omega) p107_1 hx hx2) (tw hw 100 rfl) (tw hw 22 rfl) rfl (argsL := [(.ref b_107), (.int j.toInt32)]) (rest := []) (W := 0) rfl rfl pd_8 rfl (Nat.le_of_eq rfl) rfl (by decide) (by decide) (by decide) (by decide) d5_32 rfl ?_
  intro T110 v110 L110 X110 q110
  obtain ⟨r_110, rfl, rfl, e110, p110_0⟩ := q110
  have N110 := Fr.app N107 (Fr.nil _)
  refine Go.sipush (z := (255 : Int32)) (pc' := 38) C X110 d5_35 rfl rfl ?_
  refine Go.icmpYes (pc' := 54) C X110 d5_38 (tlt (x := (255 : Int32)) (y := r_110) p110_0).2.2.1 (by decide) (by decide) ?_
  refine Go.aload (pc' := 56) C X110 d5_54 rfl rfl rfl ?_
  have K113 : Keep h0 T107.heap [] := ((((Keep.refl h0 []).ext E101).trans K102 (allS (Or.inr z_b101) all0)).trans K107 all0)
  exact Go.retA C X110 rfl d5_56 rfl rfl rfl (by rw [e110]; exact ⟨b_107, kb_107, ys_107, rfl, N110, K113, z_b_107, P107_0, p107_0⟩) (by decide) (by decide)
def Q_cfU (Z : State) (b : Addr) (kb : ClassId) (ys : List Int32) (cs : List Int32) (h0 : Heap) (rv : Option Value) (h : Heap) (L : List Loc) : Prop := rv = some (.int (1 : Int32)) ∧ L = [] ∧ h = h0
theorem rm_cfU (l : Launch) (Z : State) (a0 : Array Value) (hw : ∀ d ∈ tables_1, d.before a0 Z = true) (b : Addr) (kb : ClassId) (ys : List Int32) (cs : List Int32) (h0 : Heap) (O0 : Ext Z.heap h0) (B0 : AL Z h0 b kb .byte (by8 ys)) (hys : ys.length = 2 * cs.length) (hl : cs.length ≤ 18) (hpos : 0 < cs.length) :
    Met1 l Z mN12 jdk_52_method_15_code 2 (some .byte) ({ frames := 0, cells := 0, slots := 0, locals := 0 } : Room) #[(.ref b), (.int cs.length.toInt32)] h0 (Q_cfU Z b kb ys cs h0) := by
  refine Met1.of_body (Ls := #[.val (.ref b), .val (.int cs.length.toInt32)]) pf_7 (fun m => by first | (simp [entryFrame, mkF, argsToLocals, Value.category]; done) | rfl) ?_
  intro p e s m below meth c T0 C X0 e0
  have N0 : Fr Z.heap.size [] := Fr.nil _
  refine Go.iloadN (pc' := 1) C X0 d7_0 rfl rfl ?_
  refine Go.aloadN (pc' := 2) C X0 d7_1 rfl rfl rfl ?_
  refine Go.alen (z := (2 * cs.length).toInt32) (pc' := 3) C X0 e0 B0 (by rw [by8_len, hys]) d7_2 rfl ?_
  refine Go.isub (pc' := 4) C X0 d7_3 rfl ?_
  refine Go.bipush (z := (31 : Int32)) (pc' := 6) C X0 d7_4 rfl rfl ?_
  refine Go.iushr (pc' := 7) C X0 d7_6 rfl ?_
  refine Go.i2b (pc' := 8) C X0 d7_7 rfl ?_
  exact Go.retN C X0 rfl d7_8 (by simp) (by rw [e0]; exact ⟨(congrArg (fun z => some (Value.int z)) (by rw [cfl1 cs.length (by omega) hpos]; rfl)), rfl, rfl⟩) (by decide) (by decide)
def Q_sU4 (Z : State) (s1 : Addr) (a : Addr) (ka : ClassId) (cs : List Int32) (j : Nat) (xj : Int32) (cP : Int32) (h0 : Heap) (rv : Option Value) (h : Heap) (L : List Loc) : Prop := ∃ v : Addr, ∃ kv : ClassId, ∃ ys : List Int32, rv = none ∧ Fr Z.heap.size L ∧ Keep h0 h [s1] ∧ h0.size ≤ v ∧ Fld Z h s1 "java/lang/String" "value" "[B" (.ref v) ∧ Fld Z h s1 "java/lang/String" "coder" "B" (.int (1 : Int32)) ∧ AL Z h v kv .byte (by8 ys)
theorem rm_sU4 (l : Launch) (Z : State) (a0 : Array Value) (hw : ∀ d ∈ tables_1, d.before a0 Z = true) (s1 : Addr) (a : Addr) (ka : ClassId) (cs : List Int32) (j : Nat) (xj : Int32) (cP : Int32) (h0 : Heap) (O0 : Ext Z.heap h0) (E0 : Exa Z h0 s1 "java/lang/String") (Fv : Fld Z h0 s1 "java/lang/String" "value" "[B" .null) (Fc : Fld Z h0 s1 "java/lang/String" "coder" "B" (.int (0 : Int32))) (A0 : AL Z h0 a ka .char (ch16 cs)) (SC : Sta Z Z.heap "java/lang/String" "COMPACT_STRINGS" "Z" (.int cP)) (SH : Sta Z Z.heap "java/lang/StringUTF16" "HI_BYTE_SHIFT" "I" (.int (0 : Int32))) (SLo : Sta Z Z.heap "java/lang/StringUTF16" "LO_BYTE_SHIFT" "I" (.int (8 : Int32))) (SAd : Sta Z Z.heap "java/lang/StringUTF16" "$assertionsDisabled" "Z" (.int (1 : Int32))) (hl : cs.length ≤ 18) (hj : cs[j]? = some xj) (hx : 255 < xj.toInt) (hx2 : xj.toInt ≤ 65535) (hb : ∀ i x, i < j → cs[i]? = some x → x.toInt ≤ 255) (hP : ¬ cP = (0 : Int32)) (hns : Z.heap.size ≤ s1) :
    Met1 l Z mN9 jdk_42_method_149_code 6 none ({ frames := 4, cells := 2, slots := 54, locals := 57 } : Room) #[(.ref s1), (.ref a), (.int (0 : Int32)), (.int cs.length.toInt32), .null] h0 (Q_sU4 Z s1 a ka cs j xj cP h0) := by
  refine Met1.of_body (Ls := #[.val (.ref s1), .val (.ref a), .val (.int (0 : Int32)), .val (.int cs.length.toInt32), .val .null, .unset]) pf_3 (fun m => by first | (simp [entryFrame, mkF, argsToLocals, Value.category]; done) | rfl) ?_
  intro p e s m below meth c T0 C X0 e0
  have N0 : Fr Z.heap.size [] := Fr.nil _
  refine Go.aloadN (pc' := 1) C X0 d3_0 rfl rfl rfl ?_
  refine Go.initO (pc' := 4) (W := 0) C X0 (tw hw 16 rfl) (tw hw 17 rfl) (tw hw 18 rfl) e0 rfl (by decide) (Nat.le_of_eq rfl) (by decide) d3_1 rfl ?_
  intro T101 X101 e101
  refine Go.iloadN (pc' := 5) C X101 d3_4 rfl rfl ?_
  refine Go.ifYes (pc' := 27) C X101 d3_5 ((if0 _ _).trans (feq (x := cs.length.toInt32) (y := (0 : Int32)) (fun q => absurd ((n32_eq (k := 0) (by omega) (by omega)).mp q) (by have := jlt hj; omega))).2) (by decide) (by decide) ?_
  refine Go.getS (pc' := 30) (host := "") C X101 (Or.inl (tw hw 19 rfl)) Via.refl e101 (SC.ext O0) d3_27 rfl ?_
  intro T103 X103 e103
  refine Go.ifNo (pc' := 33) C X103 d3_30 ((if0 _ _).trans (feq (x := cP) (y := (0 : Int32)) hP).1) rfl ?_
  refine Go.aloadN (pc' := 34) C X103 d3_33 rfl rfl rfl ?_
  refine Go.iloadN (pc' := 35) C X103 d3_34 rfl rfl ?_
  refine Go.iloadN (pc' := 36) C X103 d3_35 rfl rfl ?_
  refine Go.callS (y := mN13) (pc' := 39) C X103 (tw hw 20 rfl) (tw hw 21 rfl) (by decide) (rm_cmU l Z a0 hw a ka cs j xj h0 O0 A0 SH SLo SAd hl hj hx hx2 hb) (tw hw 23 rfl) (tw hw 22 rfl) e103 (argsL := [(.ref a), (.int (0 : Int32)), (.int cs.length.toInt32)]) (rest := []) (W := 0) rfl rfl pd_1 rfl (Nat.le_of_eq rfl) rfl (by decide) (by decide) (by decide) (by decide) d3_36 rfl ?_
  intro T105 v105 L105 X105 q105
  obtain ⟨b_105, kb_105, ys_105, rfl, N105q, K105, B105_0, P105_0, p105_0⟩ := q105
  have N105 := Fr.app N0 N105q
  have n_b_105 : Z.heap.size ≤ b_105 := Nat.le_trans O0.1 B105_0
  have z_b_105 : h0.size ≤ b_105 := Nat.le_trans (Nat.le_refl _) B105_0
  refine Go.astore (Ls' := #[.val (.ref s1), .val (.ref a), .val (.int (0 : Int32)), .val (.int cs.length.toInt32), .val .null, .val (.ref b_105)]) (pc' := 41) C X105 d3_39 rfl rfl rfl ?_
  refine Go.aloadN (pc' := 42) C X105 d3_41 rfl rfl rfl ?_
  refine Go.aload (pc' := 44) C X105 d3_42 rfl rfl rfl ?_
  refine Go.iloadN (pc' := 45) C X105 d3_44 rfl rfl ?_
  have O107 : Ext Z.heap T105.heap := (Ext.keep O0 K105 all0)
  refine Go.callS (y := mN12) (pc' := 48) C X105 (tw hw 28 rfl) (tw hw 29 rfl) (by decide) (rm_cfU l Z a0 hw b_105 kb_105 ys_105 cs T105.heap O107 P105_0 p105_0 hl (by have := jlt hj; omega)) (tw hw 30 rfl) (tw hw 22 rfl) rfl (argsL := [(.ref b_105), (.int cs.length.toInt32)]) (rest := [(.ref s1)]) (W := 1) rfl rfl pd_2 rfl (Nat.le_of_eq rfl) rfl (by decide) (by decide) (by decide) (by decide) d3_45 rfl ?_
  intro T106 v106 L106 X106 q106
  obtain ⟨rfl, rfl, e106⟩ := q106
  have N106 := Fr.app N105 (Fr.nil _)
  have c109 : Fld Z T105.heap s1 "java/lang/String" "coder" "B" (.int (0 : Int32)) := (Fld.keep Fc K105 nin0)
  have c110 : Exa Z T105.heap s1 "java/lang/String" := (Exa.keep E0 K105)
  refine Go.putFN (pc' := 51) (ty := .byte) (v' := .int (1 : Int32)) C X106 (tw hw 31 rfl) Via.refl e106 c109 c110 (Or.inr ⟨(tw hw 32 rfl), rfl, rfl⟩) (tw hw 2 rfl) (by decide) rfl (by decide) d3_48 rfl ?_
  intro T108 h108 X108 e108 W108 F108
  have N108 := Fr.snoc X108 N106 hns
  refine Go.aloadN (pc' := 52) C X108 d3_51 rfl rfl rfl ?_
  refine Go.aload (pc' := 54) C X108 d3_52 rfl rfl rfl ?_
  have c112 : Fld Z h108 s1 "java/lang/String" "value" "[B" .null := (Fld.other W108 (Fld.keep Fv K105 nin0) (Or.inr (slot_ne (Or.inr (tw hw 34 rfl)) (Or.inr (tw hw 32 rfl)) (by decide) (t := (.array .byte)) (t' := .byte) (by decide) (by decide))))
  have c113 : Exa Z h108 s1 "java/lang/String" := (Exa.wr W108 c110)
  refine Go.putF (pc' := 57) (host := "") (ty := (.array .byte)) C X108 (Or.inl (tw hw 33 rfl)) Via.refl e108 c112 c113 (Or.inr ⟨(tw hw 34 rfl), rfl, rfl⟩) (tw hw 2 rfl) (by decide) rfl rfl d3_54 rfl ?_
  intro T111 h111 X111 e111 W111 F111
  have N111 := Fr.snoc X111 N108 hns
  have K114 : Keep h0 h111 [s1] := ((((Keep.refl h0 [s1]).trans K105 all0).wr W108 (Or.inl (by simp))).wr W111 (Or.inl (by simp)))
  have c115 : Fld Z h111 s1 "java/lang/String" "coder" "B" (.int (1 : Int32)) := (Fld.other W111 F108 (Or.inr (slot_ne (Or.inr (tw hw 32 rfl)) (Or.inr (tw hw 34 rfl)) (by decide) (t := .byte) (t' := (.array .byte)) (by decide) (by decide))))
  have ne116 : b_105 ≠ s1 := (Nat.ne_of_gt (Nat.lt_of_lt_of_le E0.lt (Nat.le_trans (Nat.le_refl _) B105_0)))
  have c117 : AL Z h111 b_105 kb_105 .byte (by8 ys_105) := (AL.other W111 (AL.other W108 P105_0 ne116) ne116)
  exact Go.retV C X111 rfl d3_57 (by rw [e111]; exact ⟨b_105, kb_105, ys_105, rfl, N111, K114, z_b_105, F111, c115, c117⟩) (by decide) (by decide)
def Q_sU1 (Z : State) (s1 : Addr) (a : Addr) (ka : ClassId) (cs : List Int32) (j : Nat) (xj : Int32) (cP : Int32) (h0 : Heap) (rv : Option Value) (h : Heap) (L : List Loc) : Prop := ∃ v : Addr, ∃ kv : ClassId, ∃ ys : List Int32, rv = none ∧ Fr Z.heap.size L ∧ Keep h0 h [s1] ∧ h0.size ≤ v ∧ Fld Z h s1 "java/lang/String" "value" "[B" (.ref v) ∧ Fld Z h s1 "java/lang/String" "coder" "B" (.int (1 : Int32)) ∧ AL Z h v kv .byte (by8 ys)
theorem rm_sU1 (l : Launch) (Z : State) (a0 : Array Value) (hw : ∀ d ∈ tables_1, d.before a0 Z = true) (s1 : Addr) (a : Addr) (ka : ClassId) (cs : List Int32) (j : Nat) (xj : Int32) (cP : Int32) (h0 : Heap) (O0 : Ext Z.heap h0) (E0 : Exa Z h0 s1 "java/lang/String") (Fv : Fld Z h0 s1 "java/lang/String" "value" "[B" .null) (Fc : Fld Z h0 s1 "java/lang/String" "coder" "B" (.int (0 : Int32))) (A0 : AL Z h0 a ka .char (ch16 cs)) (SC : Sta Z Z.heap "java/lang/String" "COMPACT_STRINGS" "Z" (.int cP)) (SH : Sta Z Z.heap "java/lang/StringUTF16" "HI_BYTE_SHIFT" "I" (.int (0 : Int32))) (SLo : Sta Z Z.heap "java/lang/StringUTF16" "LO_BYTE_SHIFT" "I" (.int (8 : Int32))) (SAd : Sta Z Z.heap "java/lang/StringUTF16" "$assertionsDisabled" "Z" (.int (1 : Int32))) (hl : cs.length ≤ 18) (hj : cs[j]? = some xj) (hx : 255 < xj.toInt) (hx2 : xj.toInt ≤ 65535) (hb : ∀ i x, i < j → cs[i]? = some x → x.toInt ≤ 255) (hP : ¬ cP = (0 : Int32)) (hns : Z.heap.size ≤ s1) :
    Met1 l Z mN8 jdk_42_method_3_code 2 none ({ frames := 5, cells := 2, slots := 54, locals := 74 } : Room) #[(.ref s1), (.ref a)] h0 (Q_sU1 Z s1 a ka cs j xj cP h0) := by
  refine Met1.of_body (Ls := #[.val (.ref s1), .val (.ref a)]) pf_2 (fun m => by first | (simp [entryFrame, mkF, argsToLocals, Value.category]; done) | rfl) ?_
  intro p e s m below meth c T0 C X0 e0
  have N0 : Fr Z.heap.size [] := Fr.nil _
  refine Go.aloadN (pc' := 1) C X0 d2_0 rfl rfl rfl ?_
  refine Go.aloadN (pc' := 2) C X0 d2_1 rfl rfl rfl ?_
  refine Go.iconst (z := (0 : Int32)) (pc' := 3) C X0 d2_2 rfl rfl ?_
  refine Go.aloadN (pc' := 4) C X0 d2_3 rfl rfl rfl ?_
  refine Go.alen (z := cs.length.toInt32) (pc' := 5) C X0 e0 A0 (by rw [ch16_len]) d2_4 rfl ?_
  refine Go.aconstNull (pc' := 6) C X0 d2_5 rfl ?_
  refine Go.callI (y := mN9) (a := s1) (pc' := 9) C X0 rfl (tw hw 12 rfl) (tw hw 13 rfl) (by decide) (rm_sU4 l Z a0 hw s1 a ka cs j xj cP h0 O0 E0 Fv Fc A0 SC SH SLo SAd hl hj hx hx2 hb hP hns) (tw hw 15 rfl) (tw hw 3 rfl) e0 (argsL := [(.ref a), (.int (0 : Int32)), (.int cs.length.toInt32), .null]) (rest := []) (W := 0) rfl rfl pd_3 rfl (Nat.le_of_eq rfl) rfl (by decide) (by decide) (by decide) (by decide) rfl d2_6 rfl ?_
  intro T101 v101 L101 X101 q101
  obtain ⟨v_101, kv_101, ys_101, rfl, N101q, K101, B101_0, P101_0, P101_1, P101_2⟩ := q101
  have N101 := Fr.app N0 N101q
  have n_v_101 : Z.heap.size ≤ v_101 := Nat.le_trans O0.1 B101_0
  have z_v_101 : h0.size ≤ v_101 := Nat.le_trans (Nat.le_refl _) B101_0
  have K102 : Keep h0 T101.heap [s1] := ((Keep.refl h0 [s1]).trans K101 (allS (Or.inl (by simp)) all0))
  exact Go.retV C X101 rfl d2_9 ⟨v_101, kv_101, ys_101, rfl, N101, K102, z_v_101, P101_0, P101_1, P101_2⟩ (by decide) (by decide)
def leL : List Int32 := [(108 : Int32), (97 : Int32), (119 : Int32), (45 : Int32), (101 : Int32), (110 : Int32), (102 : Int32), (111 : Int32), (114 : Int32), (99 : Int32), (101 : Int32), (109 : Int32), (101 : Int32), (110 : Int32), (116 : Int32)]
def leS : List Int32 := [(108 : Int32), (97 : Int32), (119 : Int32), (45 : Int32), (101 : Int32), (110 : Int32), (102 : Int32), (111 : Int32), (114 : Int32), (99 : Int32), (101 : Int32), (109 : Int32), (101 : Int32), (110 : Int32)]
theorem leV : ([(.int (108 : Int32)), (.int (97 : Int32)), (.int (119 : Int32)), (.int (45 : Int32)), (.int (101 : Int32)), (.int (110 : Int32)), (.int (102 : Int32)), (.int (111 : Int32)), (.int (114 : Int32)), (.int (99 : Int32)), (.int (101 : Int32)), (.int (109 : Int32)), (.int (101 : Int32)), (.int (110 : Int32)), (.int (116 : Int32))] : List Value) = by8 leL := by rfl
def daL : List Int32 := [(100 : Int32), (105 : Int32), (115 : Int32), (116 : Int32), (114 : Int32), (105 : Int32), (99 : Int32), (116 : Int32), (45 : Int32), (97 : Int32), (116 : Int32), (116 : Int32), (111 : Int32), (114 : Int32), (110 : Int32), (101 : Int32), (121 : Int32)]
def daS : List Int32 := [(100 : Int32), (105 : Int32), (115 : Int32), (116 : Int32), (114 : Int32), (105 : Int32), (99 : Int32), (116 : Int32), (45 : Int32), (97 : Int32), (116 : Int32), (116 : Int32), (111 : Int32), (114 : Int32), (110 : Int32), (101 : Int32)]
theorem daV : ([(.int (100 : Int32)), (.int (105 : Int32)), (.int (115 : Int32)), (.int (116 : Int32)), (.int (114 : Int32)), (.int (105 : Int32)), (.int (99 : Int32)), (.int (116 : Int32)), (.int (45 : Int32)), (.int (97 : Int32)), (.int (116 : Int32)), (.int (116 : Int32)), (.int (111 : Int32)), (.int (114 : Int32)), (.int (110 : Int32)), (.int (101 : Int32)), (.int (121 : Int32))] : List Value) = by8 daL := by rfl
theorem ch16_set (cs : List Int32) (i : Nat) (x : Int32) : (ch16 cs).set i (.int x) = ch16 (cs.set i x) := by simp [ch16, List.map_set]
theorem m16 (y : Int32) : 0 ≤ (y &&& (65535 : Int32)).toInt ∧ (y &&& (65535 : Int32)).toInt ≤ 65535 := by
  have h := c_mask y (65535 : Int32) 16 (by decide) (by decide)
  omega
theorem i16 (y : Int32) : (y &&& (65535 : Int32)).toUInt32.toUInt16.toUInt32.toInt32 = (y &&& (65535 : Int32)) := by
  have q := c_i2c (y &&& (65535 : Int32))
  have h := m16 y
  exact Int32.toInt_inj.mp (by omega)
theorem n16 (y : Int32) : nar .char (y &&& (65535 : Int32)) = (y &&& (65535 : Int32)) := i16 y
theorem n16b (y : Int32) : nar .char ((y &&& (65535 : Int32)).toUInt32.toUInt16.toUInt32.toInt32) = (y &&& (65535 : Int32)) := by rw [i16, n16]
theorem split16 : ∀ (cs : List Int32), (∀ x ∈ cs, 0 ≤ x.toInt ∧ x.toInt ≤ 65535) → (∀ x ∈ cs, 0 ≤ x.toInt ∧ x.toInt ≤ 255) ∨ ∃ (j : Nat) (xj : Int32), cs[j]? = some xj ∧ 255 < xj.toInt ∧ xj.toInt ≤ 65535 ∧ ∀ (i : Nat) (x : Int32), i < j → cs[i]? = some x → x.toInt ≤ 255
  | [], _ => Or.inl (fun _ h => nomatch h)
  | c :: cs, h => by
    by_cases hc : c.toInt ≤ 255
    · rcases split16 cs (fun x hx => h x (List.mem_cons_of_mem _ hx)) with q | ⟨j, xj, h1, h2, h3, h4⟩
      · refine Or.inl fun x hx => ?_
        rcases List.mem_cons.mp hx with rfl | hx
        · exact ⟨(h _ (List.mem_cons_self ..)).1, hc⟩
        · exact q x hx
      · refine Or.inr ⟨j + 1, xj, by simpa using h1, h2, h3, fun i x hi hx => ?_⟩
        cases i with
        | zero => simp at hx; subst hx; exact hc
        | succ i => exact h4 i x (by omega) (by simpa using hx)
    · exact Or.inr ⟨0, c, rfl, by omega, (h _ (List.mem_cons_self ..)).2, fun i x hi => absurd hi (by omega)⟩
theorem own_c4 (x : Int32) : (x &&& (3 : Int32)) = (0 : Int32) ∨ (x &&& (3 : Int32)) = (1 : Int32) ∨ (x &&& (3 : Int32)) = (2 : Int32) ∨ (x &&& (3 : Int32)) = (3 : Int32) := by
  have h := c_mask x (3 : Int32) 2 (by decide) (by decide)
  simp only [← Int32.toInt_inj, Int32.reduceToInt]; omega
theorem ix {p : Int32} {d : Int32} {k : Nat} (hd : d.toInt = k) (hk : 0 < k) : ¬ ((p &&& (2147483647 : Int32)) % d) < 0 ∧ ((p &&& (2147483647 : Int32)) % d).toNatClampNeg < k := by
  have h := c_mask p (2147483647 : Int32) 31 (by decide) (by decide)
  have q := (c_irem (p &&& (2147483647 : Int32)) d (k : Int) hd).1 (by omega)
  have e1 := Int.emod_nonneg (p &&& (2147483647 : Int32)).toInt (b := (k : Int)) (by omega)
  have e2 := Int.emod_lt_of_pos (p &&& (2147483647 : Int32)).toInt (b := (k : Int)) (by omega)
  rw [Int32.lt_iff_toInt_lt]
  simp only [Int32.toNatClampNeg]
  have z : (0 : Int32).toInt = 0 := rfl
  omega
theorem set16 {cs : List Int32} {i : Nat} {y : Int32} (h : ∀ x ∈ cs, 0 ≤ x.toInt ∧ x.toInt ≤ 65535) (hy : 0 ≤ y.toInt ∧ y.toInt ≤ 65535) : ∀ x ∈ cs.set i y, 0 ≤ x.toInt ∧ x.toInt ≤ 65535 := fun x hx => (List.mem_or_eq_of_mem_set hx).elim (h x) (fun e => e ▸ hy)
theorem app16 {cs : List Int32} {y : Int32} (h : ∀ x ∈ cs, 0 ≤ x.toInt ∧ x.toInt ≤ 65535) (hy : 0 ≤ y.toInt ∧ y.toInt ≤ 65535) : ∀ x ∈ cs ++ [y], 0 ≤ x.toInt ∧ x.toInt ≤ 65535 := fun x hx => (List.mem_append.mp hx).elim (h x) (fun e => by cases List.mem_singleton.mp e; exact hy)
theorem own_ifz {P : Prop} [Decidable P] (h : (if P then (1 : Int32) else 0) = (0 : Int32)) : ¬ P := fun q => by rw [if_pos q] at h; exact absurd h (by decide)
theorem own_ifn {P : Prop} [Decidable P] (h : ¬ (if P then (1 : Int32) else 0) = (0 : Int32)) : P := by
  by_cases q : P
  · exact q
  · rw [if_neg q] at h; exact absurd rfl h
theorem own_ifO {P : Prop} [Decidable P] (h : ¬ P) : (if P then (1 : Int32) else 0) = (0 : Int32) := if_neg h
theorem own_if1' {P : Prop} [Decidable P] (h : P) : ¬ (if P then (1 : Int32) else 0) = (0 : Int32) := by rw [if_pos h]; decide
theorem pf_1 : plainFor mN5 = true := plainFor_of_name (by first | (simp [plainName, overriddenIn]; done) | decide +kernel)
theorem d1_0 : decode method_3_code 0 = .ok (.bipush 15, 2) := by decide +kernel
theorem d1_2 : decode method_3_code 2 = .ok (.newarray .char, 2) := by decide +kernel
theorem d1_4 : decode method_3_code 4 = .ok (.dup, 1) := by decide +kernel
theorem d1_5 : decode method_3_code 5 = .ok (.iconst 0, 1) := by decide +kernel
theorem d1_6 : decode method_3_code 6 = .ok (.bipush 108, 2) := by decide +kernel
theorem d1_8 : decode method_3_code 8 = .ok (.castore, 1) := by decide +kernel
theorem d1_9 : decode method_3_code 9 = .ok (.dup, 1) := by decide +kernel
theorem d1_10 : decode method_3_code 10 = .ok (.iconst 1, 1) := by decide +kernel
theorem d1_11 : decode method_3_code 11 = .ok (.bipush 97, 2) := by decide +kernel
theorem d1_13 : decode method_3_code 13 = .ok (.castore, 1) := by decide +kernel
theorem d1_14 : decode method_3_code 14 = .ok (.dup, 1) := by decide +kernel
theorem d1_15 : decode method_3_code 15 = .ok (.iconst 2, 1) := by decide +kernel
theorem d1_16 : decode method_3_code 16 = .ok (.bipush 119, 2) := by decide +kernel
theorem d1_18 : decode method_3_code 18 = .ok (.castore, 1) := by decide +kernel
theorem d1_19 : decode method_3_code 19 = .ok (.dup, 1) := by decide +kernel
theorem d1_20 : decode method_3_code 20 = .ok (.iconst 3, 1) := by decide +kernel
theorem d1_21 : decode method_3_code 21 = .ok (.bipush 45, 2) := by decide +kernel
theorem d1_23 : decode method_3_code 23 = .ok (.castore, 1) := by decide +kernel
theorem d1_24 : decode method_3_code 24 = .ok (.dup, 1) := by decide +kernel
theorem d1_25 : decode method_3_code 25 = .ok (.iconst 4, 1) := by decide +kernel
theorem d1_26 : decode method_3_code 26 = .ok (.bipush 101, 2) := by decide +kernel
theorem d1_28 : decode method_3_code 28 = .ok (.castore, 1) := by decide +kernel
theorem d1_29 : decode method_3_code 29 = .ok (.dup, 1) := by decide +kernel
theorem d1_30 : decode method_3_code 30 = .ok (.iconst 5, 1) := by decide +kernel
theorem d1_31 : decode method_3_code 31 = .ok (.bipush 110, 2) := by decide +kernel
theorem d1_33 : decode method_3_code 33 = .ok (.castore, 1) := by decide +kernel
theorem d1_34 : decode method_3_code 34 = .ok (.dup, 1) := by decide +kernel
theorem d1_35 : decode method_3_code 35 = .ok (.bipush 6, 2) := by decide +kernel
theorem d1_37 : decode method_3_code 37 = .ok (.bipush 102, 2) := by decide +kernel
theorem d1_39 : decode method_3_code 39 = .ok (.castore, 1) := by decide +kernel
theorem d1_40 : decode method_3_code 40 = .ok (.dup, 1) := by decide +kernel
theorem d1_41 : decode method_3_code 41 = .ok (.bipush 7, 2) := by decide +kernel
theorem d1_43 : decode method_3_code 43 = .ok (.bipush 111, 2) := by decide +kernel
theorem d1_45 : decode method_3_code 45 = .ok (.castore, 1) := by decide +kernel
theorem d1_46 : decode method_3_code 46 = .ok (.dup, 1) := by decide +kernel
theorem d1_47 : decode method_3_code 47 = .ok (.bipush 8, 2) := by decide +kernel
theorem d1_49 : decode method_3_code 49 = .ok (.bipush 114, 2) := by decide +kernel
theorem d1_51 : decode method_3_code 51 = .ok (.castore, 1) := by decide +kernel
theorem d1_52 : decode method_3_code 52 = .ok (.dup, 1) := by decide +kernel
theorem d1_53 : decode method_3_code 53 = .ok (.bipush 9, 2) := by decide +kernel
theorem d1_55 : decode method_3_code 55 = .ok (.bipush 99, 2) := by decide +kernel
theorem d1_57 : decode method_3_code 57 = .ok (.castore, 1) := by decide +kernel
theorem d1_58 : decode method_3_code 58 = .ok (.dup, 1) := by decide +kernel
theorem d1_59 : decode method_3_code 59 = .ok (.bipush 10, 2) := by decide +kernel
theorem d1_61 : decode method_3_code 61 = .ok (.bipush 101, 2) := by decide +kernel
theorem d1_63 : decode method_3_code 63 = .ok (.castore, 1) := by decide +kernel
theorem d1_64 : decode method_3_code 64 = .ok (.dup, 1) := by decide +kernel
theorem d1_65 : decode method_3_code 65 = .ok (.bipush 11, 2) := by decide +kernel
theorem d1_67 : decode method_3_code 67 = .ok (.bipush 109, 2) := by decide +kernel
theorem d1_69 : decode method_3_code 69 = .ok (.castore, 1) := by decide +kernel
theorem d1_70 : decode method_3_code 70 = .ok (.dup, 1) := by decide +kernel
theorem d1_71 : decode method_3_code 71 = .ok (.bipush 12, 2) := by decide +kernel
theorem d1_73 : decode method_3_code 73 = .ok (.bipush 101, 2) := by decide +kernel
theorem d1_75 : decode method_3_code 75 = .ok (.castore, 1) := by decide +kernel
theorem d1_76 : decode method_3_code 76 = .ok (.dup, 1) := by decide +kernel
theorem d1_77 : decode method_3_code 77 = .ok (.bipush 13, 2) := by decide +kernel
theorem d1_79 : decode method_3_code 79 = .ok (.bipush 110, 2) := by decide +kernel
theorem d1_81 : decode method_3_code 81 = .ok (.castore, 1) := by decide +kernel
theorem d1_82 : decode method_3_code 82 = .ok (.dup, 1) := by decide +kernel
theorem d1_83 : decode method_3_code 83 = .ok (.bipush 14, 2) := by decide +kernel
theorem d1_85 : decode method_3_code 85 = .ok (.bipush 116, 2) := by decide +kernel
theorem d1_87 : decode method_3_code 87 = .ok (.castore, 1) := by decide +kernel
theorem d1_88 : decode method_3_code 88 = .ok (.areturn, 1) := by decide +kernel
def Q_ar_le (Z : State)  (h0 : Heap) (rv : Option Value) (h : Heap) (L : List Loc) : Prop := ∃ a : Addr, ∃ ka : ClassId, rv = some (.ref a) ∧ Fr Z.heap.size L ∧ Keep h0 h [] ∧ h0.size ≤ a ∧ AL Z h a ka .char (ch16 leL)
theorem rm_ar_le (l : Launch) (Z : State) (a0 : Array Value) (hw : ∀ d ∈ tables_1, d.before a0 Z = true)  (h0 : Heap) (O0 : Ext Z.heap h0) :
    Met1 l Z mN5 method_3_code 0 (some (.array .char)) ({ frames := 0, cells := 1, slots := 15, locals := 0 } : Room) #[] h0 (Q_ar_le Z  h0) := by
  refine Met1.of_body (Ls := #[]) pf_1 (fun m => by first | (simp [entryFrame, mkF, argsToLocals, Value.category]; done) | rfl) ?_
  intro p e s m below meth c T0 C X0 e0
  have N0 : Fr Z.heap.size [] := Fr.nil _
  refine Go.bipush (z := (15 : Int32)) (pc' := 2) C X0 d1_0 rfl rfl ?_
  refine Go.newP (aty := .char) (cap := 15) (vs := [(.int (0 : Int32)), (.int (0 : Int32)), (.int (0 : Int32)), (.int (0 : Int32)), (.int (0 : Int32)), (.int (0 : Int32)), (.int (0 : Int32)), (.int (0 : Int32)), (.int (0 : Int32)), (.int (0 : Int32)), (.int (0 : Int32)), (.int (0 : Int32)), (.int (0 : Int32)), (.int (0 : Int32)), (.int (0 : Int32))]) (ad := "[C") (pc' := 4) C X0 (by decide) (tw hw 8 rfl) e0 (by decide) (by decide) (by decide) (by decide) (by decide) rfl d1_2 rfl ?_
  intro T101 h101 b101 k101 X101 e101 g101 E101 A101 Ea101
  have n_b101 : Z.heap.size ≤ b101 := Nat.le_trans O0.1 (Nat.le_of_eq g101.symm)
  have z_b101 : h0.size ≤ b101 := Nat.le_trans (Nat.le_refl _) (Nat.le_of_eq g101.symm)
  have A101 : AL Z h101 b101 k101 .char [(.int (0 : Int32)), (.int (0 : Int32)), (.int (0 : Int32)), (.int (0 : Int32)), (.int (0 : Int32)), (.int (0 : Int32)), (.int (0 : Int32)), (.int (0 : Int32)), (.int (0 : Int32)), (.int (0 : Int32)), (.int (0 : Int32)), (.int (0 : Int32)), (.int (0 : Int32)), (.int (0 : Int32)), (.int (0 : Int32))] := A101
  refine Go.dup (pc' := 5) C X101 d1_4 rfl rfl ?_
  refine Go.iconst (z := (0 : Int32)) (pc' := 6) C X101 d1_5 rfl rfl ?_
  refine Go.bipush (z := (108 : Int32)) (pc' := 8) C X101 d1_6 rfl rfl ?_
  refine Go.stC (i := 0) (x' := (108 : Int32)) (vs' := [(.int (108 : Int32)), (.int (0 : Int32)), (.int (0 : Int32)), (.int (0 : Int32)), (.int (0 : Int32)), (.int (0 : Int32)), (.int (0 : Int32)), (.int (0 : Int32)), (.int (0 : Int32)), (.int (0 : Int32)), (.int (0 : Int32)), (.int (0 : Int32)), (.int (0 : Int32)), (.int (0 : Int32)), (.int (0 : Int32))]) (pc' := 9) C X101 e101 A101 (by decide) (by decide) (by simp) (by decide) rfl d1_8 rfl ?_
  intro T102 h102 X102 e102 W102 A102
  have N102 := Fr.snoc X102 N0 n_b101
  refine Go.dup (pc' := 10) C X102 d1_9 rfl rfl ?_
  refine Go.iconst (z := (1 : Int32)) (pc' := 11) C X102 d1_10 rfl rfl ?_
  refine Go.bipush (z := (97 : Int32)) (pc' := 13) C X102 d1_11 rfl rfl ?_
  refine Go.stC (i := 1) (x' := (97 : Int32)) (vs' := [(.int (108 : Int32)), (.int (97 : Int32)), (.int (0 : Int32)), (.int (0 : Int32)), (.int (0 : Int32)), (.int (0 : Int32)), (.int (0 : Int32)), (.int (0 : Int32)), (.int (0 : Int32)), (.int (0 : Int32)), (.int (0 : Int32)), (.int (0 : Int32)), (.int (0 : Int32)), (.int (0 : Int32)), (.int (0 : Int32))]) (pc' := 14) C X102 e102 A102 (by decide) (by decide) (by simp) (by decide) rfl d1_13 rfl ?_
  intro T103 h103 X103 e103 W103 A103
  have N103 := Fr.snoc X103 N102 n_b101
  refine Go.dup (pc' := 15) C X103 d1_14 rfl rfl ?_
  refine Go.iconst (z := (2 : Int32)) (pc' := 16) C X103 d1_15 rfl rfl ?_
  refine Go.bipush (z := (119 : Int32)) (pc' := 18) C X103 d1_16 rfl rfl ?_
  refine Go.stC (i := 2) (x' := (119 : Int32)) (vs' := [(.int (108 : Int32)), (.int (97 : Int32)), (.int (119 : Int32)), (.int (0 : Int32)), (.int (0 : Int32)), (.int (0 : Int32)), (.int (0 : Int32)), (.int (0 : Int32)), (.int (0 : Int32)), (.int (0 : Int32)), (.int (0 : Int32)), (.int (0 : Int32)), (.int (0 : Int32)), (.int (0 : Int32)), (.int (0 : Int32))]) (pc' := 19) C X103 e103 A103 (by decide) (by decide) (by simp) (by decide) rfl d1_18 rfl ?_
  intro T104 h104 X104 e104 W104 A104
  have N104 := Fr.snoc X104 N103 n_b101
  refine Go.dup (pc' := 20) C X104 d1_19 rfl rfl ?_
  refine Go.iconst (z := (3 : Int32)) (pc' := 21) C X104 d1_20 rfl rfl ?_
  refine Go.bipush (z := (45 : Int32)) (pc' := 23) C X104 d1_21 rfl rfl ?_
  refine Go.stC (i := 3) (x' := (45 : Int32)) (vs' := [(.int (108 : Int32)), (.int (97 : Int32)), (.int (119 : Int32)), (.int (45 : Int32)), (.int (0 : Int32)), (.int (0 : Int32)), (.int (0 : Int32)), (.int (0 : Int32)), (.int (0 : Int32)), (.int (0 : Int32)), (.int (0 : Int32)), (.int (0 : Int32)), (.int (0 : Int32)), (.int (0 : Int32)), (.int (0 : Int32))]) (pc' := 24) C X104 e104 A104 (by decide) (by decide) (by simp) (by decide) rfl d1_23 rfl ?_
  intro T105 h105 X105 e105 W105 A105
  have N105 := Fr.snoc X105 N104 n_b101
  refine Go.dup (pc' := 25) C X105 d1_24 rfl rfl ?_
  refine Go.iconst (z := (4 : Int32)) (pc' := 26) C X105 d1_25 rfl rfl ?_
  refine Go.bipush (z := (101 : Int32)) (pc' := 28) C X105 d1_26 rfl rfl ?_
  refine Go.stC (i := 4) (x' := (101 : Int32)) (vs' := [(.int (108 : Int32)), (.int (97 : Int32)), (.int (119 : Int32)), (.int (45 : Int32)), (.int (101 : Int32)), (.int (0 : Int32)), (.int (0 : Int32)), (.int (0 : Int32)), (.int (0 : Int32)), (.int (0 : Int32)), (.int (0 : Int32)), (.int (0 : Int32)), (.int (0 : Int32)), (.int (0 : Int32)), (.int (0 : Int32))]) (pc' := 29) C X105 e105 A105 (by decide) (by decide) (by simp) (by decide) rfl d1_28 rfl ?_
  intro T106 h106 X106 e106 W106 A106
  have N106 := Fr.snoc X106 N105 n_b101
  refine Go.dup (pc' := 30) C X106 d1_29 rfl rfl ?_
  refine Go.iconst (z := (5 : Int32)) (pc' := 31) C X106 d1_30 rfl rfl ?_
  refine Go.bipush (z := (110 : Int32)) (pc' := 33) C X106 d1_31 rfl rfl ?_
  refine Go.stC (i := 5) (x' := (110 : Int32)) (vs' := [(.int (108 : Int32)), (.int (97 : Int32)), (.int (119 : Int32)), (.int (45 : Int32)), (.int (101 : Int32)), (.int (110 : Int32)), (.int (0 : Int32)), (.int (0 : Int32)), (.int (0 : Int32)), (.int (0 : Int32)), (.int (0 : Int32)), (.int (0 : Int32)), (.int (0 : Int32)), (.int (0 : Int32)), (.int (0 : Int32))]) (pc' := 34) C X106 e106 A106 (by decide) (by decide) (by simp) (by decide) rfl d1_33 rfl ?_
  intro T107 h107 X107 e107 W107 A107
  have N107 := Fr.snoc X107 N106 n_b101
  refine Go.dup (pc' := 35) C X107 d1_34 rfl rfl ?_
  refine Go.bipush (z := (6 : Int32)) (pc' := 37) C X107 d1_35 rfl rfl ?_
  refine Go.bipush (z := (102 : Int32)) (pc' := 39) C X107 d1_37 rfl rfl ?_
  refine Go.stC (i := 6) (x' := (102 : Int32)) (vs' := [(.int (108 : Int32)), (.int (97 : Int32)), (.int (119 : Int32)), (.int (45 : Int32)), (.int (101 : Int32)), (.int (110 : Int32)), (.int (102 : Int32)), (.int (0 : Int32)), (.int (0 : Int32)), (.int (0 : Int32)), (.int (0 : Int32)), (.int (0 : Int32)), (.int (0 : Int32)), (.int (0 : Int32)), (.int (0 : Int32))]) (pc' := 40) C X107 e107 A107 (by decide) (by decide) (by simp) (by decide) rfl d1_39 rfl ?_
  intro T108 h108 X108 e108 W108 A108
  have N108 := Fr.snoc X108 N107 n_b101
  refine Go.dup (pc' := 41) C X108 d1_40 rfl rfl ?_
  refine Go.bipush (z := (7 : Int32)) (pc' := 43) C X108 d1_41 rfl rfl ?_
  refine Go.bipush (z := (111 : Int32)) (pc' := 45) C X108 d1_43 rfl rfl ?_
  refine Go.stC (i := 7) (x' := (111 : Int32)) (vs' := [(.int (108 : Int32)), (.int (97 : Int32)), (.int (119 : Int32)), (.int (45 : Int32)), (.int (101 : Int32)), (.int (110 : Int32)), (.int (102 : Int32)), (.int (111 : Int32)), (.int (0 : Int32)), (.int (0 : Int32)), (.int (0 : Int32)), (.int (0 : Int32)), (.int (0 : Int32)), (.int (0 : Int32)), (.int (0 : Int32))]) (pc' := 46) C X108 e108 A108 (by decide) (by decide) (by simp) (by decide) rfl d1_45 rfl ?_
  intro T109 h109 X109 e109 W109 A109
  have N109 := Fr.snoc X109 N108 n_b101
  refine Go.dup (pc' := 47) C X109 d1_46 rfl rfl ?_
  refine Go.bipush (z := (8 : Int32)) (pc' := 49) C X109 d1_47 rfl rfl ?_
  refine Go.bipush (z := (114 : Int32)) (pc' := 51) C X109 d1_49 rfl rfl ?_
  refine Go.stC (i := 8) (x' := (114 : Int32)) (vs' := [(.int (108 : Int32)), (.int (97 : Int32)), (.int (119 : Int32)), (.int (45 : Int32)), (.int (101 : Int32)), (.int (110 : Int32)), (.int (102 : Int32)), (.int (111 : Int32)), (.int (114 : Int32)), (.int (0 : Int32)), (.int (0 : Int32)), (.int (0 : Int32)), (.int (0 : Int32)), (.int (0 : Int32)), (.int (0 : Int32))]) (pc' := 52) C X109 e109 A109 (by decide) (by decide) (by simp) (by decide) rfl d1_51 rfl ?_
  intro T110 h110 X110 e110 W110 A110
  have N110 := Fr.snoc X110 N109 n_b101
  refine Go.dup (pc' := 53) C X110 d1_52 rfl rfl ?_
  refine Go.bipush (z := (9 : Int32)) (pc' := 55) C X110 d1_53 rfl rfl ?_
  refine Go.bipush (z := (99 : Int32)) (pc' := 57) C X110 d1_55 rfl rfl ?_
  refine Go.stC (i := 9) (x' := (99 : Int32)) (vs' := [(.int (108 : Int32)), (.int (97 : Int32)), (.int (119 : Int32)), (.int (45 : Int32)), (.int (101 : Int32)), (.int (110 : Int32)), (.int (102 : Int32)), (.int (111 : Int32)), (.int (114 : Int32)), (.int (99 : Int32)), (.int (0 : Int32)), (.int (0 : Int32)), (.int (0 : Int32)), (.int (0 : Int32)), (.int (0 : Int32))]) (pc' := 58) C X110 e110 A110 (by decide) (by decide) (by simp) (by decide) rfl d1_57 rfl ?_
  intro T111 h111 X111 e111 W111 A111
  have N111 := Fr.snoc X111 N110 n_b101
  refine Go.dup (pc' := 59) C X111 d1_58 rfl rfl ?_
  refine Go.bipush (z := (10 : Int32)) (pc' := 61) C X111 d1_59 rfl rfl ?_
  refine Go.bipush (z := (101 : Int32)) (pc' := 63) C X111 d1_61 rfl rfl ?_
  refine Go.stC (i := 10) (x' := (101 : Int32)) (vs' := [(.int (108 : Int32)), (.int (97 : Int32)), (.int (119 : Int32)), (.int (45 : Int32)), (.int (101 : Int32)), (.int (110 : Int32)), (.int (102 : Int32)), (.int (111 : Int32)), (.int (114 : Int32)), (.int (99 : Int32)), (.int (101 : Int32)), (.int (0 : Int32)), (.int (0 : Int32)), (.int (0 : Int32)), (.int (0 : Int32))]) (pc' := 64) C X111 e111 A111 (by decide) (by decide) (by simp) (by decide) rfl d1_63 rfl ?_
  intro T112 h112 X112 e112 W112 A112
  have N112 := Fr.snoc X112 N111 n_b101
  refine Go.dup (pc' := 65) C X112 d1_64 rfl rfl ?_
  refine Go.bipush (z := (11 : Int32)) (pc' := 67) C X112 d1_65 rfl rfl ?_
  refine Go.bipush (z := (109 : Int32)) (pc' := 69) C X112 d1_67 rfl rfl ?_
  refine Go.stC (i := 11) (x' := (109 : Int32)) (vs' := [(.int (108 : Int32)), (.int (97 : Int32)), (.int (119 : Int32)), (.int (45 : Int32)), (.int (101 : Int32)), (.int (110 : Int32)), (.int (102 : Int32)), (.int (111 : Int32)), (.int (114 : Int32)), (.int (99 : Int32)), (.int (101 : Int32)), (.int (109 : Int32)), (.int (0 : Int32)), (.int (0 : Int32)), (.int (0 : Int32))]) (pc' := 70) C X112 e112 A112 (by decide) (by decide) (by simp) (by decide) rfl d1_69 rfl ?_
  intro T113 h113 X113 e113 W113 A113
  have N113 := Fr.snoc X113 N112 n_b101
  refine Go.dup (pc' := 71) C X113 d1_70 rfl rfl ?_
  refine Go.bipush (z := (12 : Int32)) (pc' := 73) C X113 d1_71 rfl rfl ?_
  refine Go.bipush (z := (101 : Int32)) (pc' := 75) C X113 d1_73 rfl rfl ?_
  refine Go.stC (i := 12) (x' := (101 : Int32)) (vs' := [(.int (108 : Int32)), (.int (97 : Int32)), (.int (119 : Int32)), (.int (45 : Int32)), (.int (101 : Int32)), (.int (110 : Int32)), (.int (102 : Int32)), (.int (111 : Int32)), (.int (114 : Int32)), (.int (99 : Int32)), (.int (101 : Int32)), (.int (109 : Int32)), (.int (101 : Int32)), (.int (0 : Int32)), (.int (0 : Int32))]) (pc' := 76) C X113 e113 A113 (by decide) (by decide) (by simp) (by decide) rfl d1_75 rfl ?_
  intro T114 h114 X114 e114 W114 A114
  have N114 := Fr.snoc X114 N113 n_b101
  refine Go.dup (pc' := 77) C X114 d1_76 rfl rfl ?_
  refine Go.bipush (z := (13 : Int32)) (pc' := 79) C X114 d1_77 rfl rfl ?_
  refine Go.bipush (z := (110 : Int32)) (pc' := 81) C X114 d1_79 rfl rfl ?_
  refine Go.stC (i := 13) (x' := (110 : Int32)) (vs' := [(.int (108 : Int32)), (.int (97 : Int32)), (.int (119 : Int32)), (.int (45 : Int32)), (.int (101 : Int32)), (.int (110 : Int32)), (.int (102 : Int32)), (.int (111 : Int32)), (.int (114 : Int32)), (.int (99 : Int32)), (.int (101 : Int32)), (.int (109 : Int32)), (.int (101 : Int32)), (.int (110 : Int32)), (.int (0 : Int32))]) (pc' := 82) C X114 e114 A114 (by decide) (by decide) (by simp) (by decide) rfl d1_81 rfl ?_
  intro T115 h115 X115 e115 W115 A115
  have N115 := Fr.snoc X115 N114 n_b101
  refine Go.dup (pc' := 83) C X115 d1_82 rfl rfl ?_
  refine Go.bipush (z := (14 : Int32)) (pc' := 85) C X115 d1_83 rfl rfl ?_
  refine Go.bipush (z := (116 : Int32)) (pc' := 87) C X115 d1_85 rfl rfl ?_
  refine Go.stC (i := 14) (x' := (116 : Int32)) (vs' := [(.int (108 : Int32)), (.int (97 : Int32)), (.int (119 : Int32)), (.int (45 : Int32)), (.int (101 : Int32)), (.int (110 : Int32)), (.int (102 : Int32)), (.int (111 : Int32)), (.int (114 : Int32)), (.int (99 : Int32)), (.int (101 : Int32)), (.int (109 : Int32)), (.int (101 : Int32)), (.int (110 : Int32)), (.int (116 : Int32))]) (pc' := 88) C X115 e115 A115 (by decide) (by decide) (by simp) (by decide) rfl d1_87 rfl ?_
  intro T116 h116 X116 e116 W116 A116
  have N116 := Fr.snoc X116 N115 n_b101
  have K117 : Keep h0 h116 [] := (((((((((((((((((Keep.refl h0 []).ext E101).wr W102 (Or.inr z_b101)).wr W103 (Or.inr z_b101)).wr W104 (Or.inr z_b101)).wr W105 (Or.inr z_b101)).wr W106 (Or.inr z_b101)).wr W107 (Or.inr z_b101)).wr W108 (Or.inr z_b101)).wr W109 (Or.inr z_b101)).wr W110 (Or.inr z_b101)).wr W111 (Or.inr z_b101)).wr W112 (Or.inr z_b101)).wr W113 (Or.inr z_b101)).wr W114 (Or.inr z_b101)).wr W115 (Or.inr z_b101)).wr W116 (Or.inr z_b101))
  exact Go.retA C X116 rfl d1_88 rfl rfl rfl (by rw [e116]; exact ⟨b101, k101, rfl, N116, K117, z_b101, A116⟩) (by decide) (by decide)
theorem pf_21 : plainFor mN2 = true := plainFor_of_name (by first | (simp [plainName, overriddenIn]; done) | decide +kernel)
theorem d21_0 : decode method_6_code 0 = .ok (.bipush 17, 2) := by decide +kernel
theorem d21_2 : decode method_6_code 2 = .ok (.newarray .char, 2) := by decide +kernel
theorem d21_4 : decode method_6_code 4 = .ok (.dup, 1) := by decide +kernel
theorem d21_5 : decode method_6_code 5 = .ok (.iconst 0, 1) := by decide +kernel
theorem d21_6 : decode method_6_code 6 = .ok (.bipush 100, 2) := by decide +kernel
theorem d21_8 : decode method_6_code 8 = .ok (.castore, 1) := by decide +kernel
theorem d21_9 : decode method_6_code 9 = .ok (.dup, 1) := by decide +kernel
theorem d21_10 : decode method_6_code 10 = .ok (.iconst 1, 1) := by decide +kernel
theorem d21_11 : decode method_6_code 11 = .ok (.bipush 105, 2) := by decide +kernel
theorem d21_13 : decode method_6_code 13 = .ok (.castore, 1) := by decide +kernel
theorem d21_14 : decode method_6_code 14 = .ok (.dup, 1) := by decide +kernel
theorem d21_15 : decode method_6_code 15 = .ok (.iconst 2, 1) := by decide +kernel
theorem d21_16 : decode method_6_code 16 = .ok (.bipush 115, 2) := by decide +kernel
theorem d21_18 : decode method_6_code 18 = .ok (.castore, 1) := by decide +kernel
theorem d21_19 : decode method_6_code 19 = .ok (.dup, 1) := by decide +kernel
theorem d21_20 : decode method_6_code 20 = .ok (.iconst 3, 1) := by decide +kernel
theorem d21_21 : decode method_6_code 21 = .ok (.bipush 116, 2) := by decide +kernel
theorem d21_23 : decode method_6_code 23 = .ok (.castore, 1) := by decide +kernel
theorem d21_24 : decode method_6_code 24 = .ok (.dup, 1) := by decide +kernel
theorem d21_25 : decode method_6_code 25 = .ok (.iconst 4, 1) := by decide +kernel
theorem d21_26 : decode method_6_code 26 = .ok (.bipush 114, 2) := by decide +kernel
theorem d21_28 : decode method_6_code 28 = .ok (.castore, 1) := by decide +kernel
theorem d21_29 : decode method_6_code 29 = .ok (.dup, 1) := by decide +kernel
theorem d21_30 : decode method_6_code 30 = .ok (.iconst 5, 1) := by decide +kernel
theorem d21_31 : decode method_6_code 31 = .ok (.bipush 105, 2) := by decide +kernel
theorem d21_33 : decode method_6_code 33 = .ok (.castore, 1) := by decide +kernel
theorem d21_34 : decode method_6_code 34 = .ok (.dup, 1) := by decide +kernel
theorem d21_35 : decode method_6_code 35 = .ok (.bipush 6, 2) := by decide +kernel
theorem d21_37 : decode method_6_code 37 = .ok (.bipush 99, 2) := by decide +kernel
theorem d21_39 : decode method_6_code 39 = .ok (.castore, 1) := by decide +kernel
theorem d21_40 : decode method_6_code 40 = .ok (.dup, 1) := by decide +kernel
theorem d21_41 : decode method_6_code 41 = .ok (.bipush 7, 2) := by decide +kernel
theorem d21_43 : decode method_6_code 43 = .ok (.bipush 116, 2) := by decide +kernel
theorem d21_45 : decode method_6_code 45 = .ok (.castore, 1) := by decide +kernel
theorem d21_46 : decode method_6_code 46 = .ok (.dup, 1) := by decide +kernel
theorem d21_47 : decode method_6_code 47 = .ok (.bipush 8, 2) := by decide +kernel
theorem d21_49 : decode method_6_code 49 = .ok (.bipush 45, 2) := by decide +kernel
theorem d21_51 : decode method_6_code 51 = .ok (.castore, 1) := by decide +kernel
theorem d21_52 : decode method_6_code 52 = .ok (.dup, 1) := by decide +kernel
theorem d21_53 : decode method_6_code 53 = .ok (.bipush 9, 2) := by decide +kernel
theorem d21_55 : decode method_6_code 55 = .ok (.bipush 97, 2) := by decide +kernel
theorem d21_57 : decode method_6_code 57 = .ok (.castore, 1) := by decide +kernel
theorem d21_58 : decode method_6_code 58 = .ok (.dup, 1) := by decide +kernel
theorem d21_59 : decode method_6_code 59 = .ok (.bipush 10, 2) := by decide +kernel
theorem d21_61 : decode method_6_code 61 = .ok (.bipush 116, 2) := by decide +kernel
theorem d21_63 : decode method_6_code 63 = .ok (.castore, 1) := by decide +kernel
theorem d21_64 : decode method_6_code 64 = .ok (.dup, 1) := by decide +kernel
theorem d21_65 : decode method_6_code 65 = .ok (.bipush 11, 2) := by decide +kernel
theorem d21_67 : decode method_6_code 67 = .ok (.bipush 116, 2) := by decide +kernel
theorem d21_69 : decode method_6_code 69 = .ok (.castore, 1) := by decide +kernel
theorem d21_70 : decode method_6_code 70 = .ok (.dup, 1) := by decide +kernel
theorem d21_71 : decode method_6_code 71 = .ok (.bipush 12, 2) := by decide +kernel
theorem d21_73 : decode method_6_code 73 = .ok (.bipush 111, 2) := by decide +kernel
theorem d21_75 : decode method_6_code 75 = .ok (.castore, 1) := by decide +kernel
theorem d21_76 : decode method_6_code 76 = .ok (.dup, 1) := by decide +kernel
theorem d21_77 : decode method_6_code 77 = .ok (.bipush 13, 2) := by decide +kernel
theorem d21_79 : decode method_6_code 79 = .ok (.bipush 114, 2) := by decide +kernel
theorem d21_81 : decode method_6_code 81 = .ok (.castore, 1) := by decide +kernel
theorem d21_82 : decode method_6_code 82 = .ok (.dup, 1) := by decide +kernel
theorem d21_83 : decode method_6_code 83 = .ok (.bipush 14, 2) := by decide +kernel
theorem d21_85 : decode method_6_code 85 = .ok (.bipush 110, 2) := by decide +kernel
theorem d21_87 : decode method_6_code 87 = .ok (.castore, 1) := by decide +kernel
theorem d21_88 : decode method_6_code 88 = .ok (.dup, 1) := by decide +kernel
theorem d21_89 : decode method_6_code 89 = .ok (.bipush 15, 2) := by decide +kernel
theorem d21_91 : decode method_6_code 91 = .ok (.bipush 101, 2) := by decide +kernel
theorem d21_93 : decode method_6_code 93 = .ok (.castore, 1) := by decide +kernel
theorem d21_94 : decode method_6_code 94 = .ok (.dup, 1) := by decide +kernel
theorem d21_95 : decode method_6_code 95 = .ok (.bipush 16, 2) := by decide +kernel
theorem d21_97 : decode method_6_code 97 = .ok (.bipush 121, 2) := by decide +kernel
theorem d21_99 : decode method_6_code 99 = .ok (.castore, 1) := by decide +kernel
theorem d21_100 : decode method_6_code 100 = .ok (.areturn, 1) := by decide +kernel
def Q_ar_da (Z : State)  (h0 : Heap) (rv : Option Value) (h : Heap) (L : List Loc) : Prop := ∃ a : Addr, ∃ ka : ClassId, rv = some (.ref a) ∧ Fr Z.heap.size L ∧ Keep h0 h [] ∧ h0.size ≤ a ∧ AL Z h a ka .char (ch16 daL)
theorem rm_ar_da (l : Launch) (Z : State) (a0 : Array Value) (hw : ∀ d ∈ tables_1, d.before a0 Z = true)  (h0 : Heap) (O0 : Ext Z.heap h0) :
    Met1 l Z mN2 method_6_code 0 (some (.array .char)) ({ frames := 0, cells := 1, slots := 17, locals := 0 } : Room) #[] h0 (Q_ar_da Z  h0) := by
  refine Met1.of_body (Ls := #[]) pf_21 (fun m => by first | (simp [entryFrame, mkF, argsToLocals, Value.category]; done) | rfl) ?_
  intro p e s m below meth c T0 C X0 e0
  have N0 : Fr Z.heap.size [] := Fr.nil _
  refine Go.bipush (z := (17 : Int32)) (pc' := 2) C X0 d21_0 rfl rfl ?_
  refine Go.newP (aty := .char) (cap := 17) (vs := [(.int (0 : Int32)), (.int (0 : Int32)), (.int (0 : Int32)), (.int (0 : Int32)), (.int (0 : Int32)), (.int (0 : Int32)), (.int (0 : Int32)), (.int (0 : Int32)), (.int (0 : Int32)), (.int (0 : Int32)), (.int (0 : Int32)), (.int (0 : Int32)), (.int (0 : Int32)), (.int (0 : Int32)), (.int (0 : Int32)), (.int (0 : Int32)), (.int (0 : Int32))]) (ad := "[C") (pc' := 4) C X0 (by decide) (tw hw 8 rfl) e0 (by decide) (by decide) (by decide) (by decide) (by decide) rfl d21_2 rfl ?_
  intro T101 h101 b101 k101 X101 e101 g101 E101 A101 Ea101
  have n_b101 : Z.heap.size ≤ b101 := Nat.le_trans O0.1 (Nat.le_of_eq g101.symm)
  have z_b101 : h0.size ≤ b101 := Nat.le_trans (Nat.le_refl _) (Nat.le_of_eq g101.symm)
  have A101 : AL Z h101 b101 k101 .char [(.int (0 : Int32)), (.int (0 : Int32)), (.int (0 : Int32)), (.int (0 : Int32)), (.int (0 : Int32)), (.int (0 : Int32)), (.int (0 : Int32)), (.int (0 : Int32)), (.int (0 : Int32)), (.int (0 : Int32)), (.int (0 : Int32)), (.int (0 : Int32)), (.int (0 : Int32)), (.int (0 : Int32)), (.int (0 : Int32)), (.int (0 : Int32)), (.int (0 : Int32))] := A101
  refine Go.dup (pc' := 5) C X101 d21_4 rfl rfl ?_
  refine Go.iconst (z := (0 : Int32)) (pc' := 6) C X101 d21_5 rfl rfl ?_
  refine Go.bipush (z := (100 : Int32)) (pc' := 8) C X101 d21_6 rfl rfl ?_
  refine Go.stC (i := 0) (x' := (100 : Int32)) (vs' := [(.int (100 : Int32)), (.int (0 : Int32)), (.int (0 : Int32)), (.int (0 : Int32)), (.int (0 : Int32)), (.int (0 : Int32)), (.int (0 : Int32)), (.int (0 : Int32)), (.int (0 : Int32)), (.int (0 : Int32)), (.int (0 : Int32)), (.int (0 : Int32)), (.int (0 : Int32)), (.int (0 : Int32)), (.int (0 : Int32)), (.int (0 : Int32)), (.int (0 : Int32))]) (pc' := 9) C X101 e101 A101 (by decide) (by decide) (by simp) (by decide) rfl d21_8 rfl ?_
  intro T102 h102 X102 e102 W102 A102
  have N102 := Fr.snoc X102 N0 n_b101
  refine Go.dup (pc' := 10) C X102 d21_9 rfl rfl ?_
  refine Go.iconst (z := (1 : Int32)) (pc' := 11) C X102 d21_10 rfl rfl ?_
  refine Go.bipush (z := (105 : Int32)) (pc' := 13) C X102 d21_11 rfl rfl ?_
  refine Go.stC (i := 1) (x' := (105 : Int32)) (vs' := [(.int (100 : Int32)), (.int (105 : Int32)), (.int (0 : Int32)), (.int (0 : Int32)), (.int (0 : Int32)), (.int (0 : Int32)), (.int (0 : Int32)), (.int (0 : Int32)), (.int (0 : Int32)), (.int (0 : Int32)), (.int (0 : Int32)), (.int (0 : Int32)), (.int (0 : Int32)), (.int (0 : Int32)), (.int (0 : Int32)), (.int (0 : Int32)), (.int (0 : Int32))]) (pc' := 14) C X102 e102 A102 (by decide) (by decide) (by simp) (by decide) rfl d21_13 rfl ?_
  intro T103 h103 X103 e103 W103 A103
  have N103 := Fr.snoc X103 N102 n_b101
  refine Go.dup (pc' := 15) C X103 d21_14 rfl rfl ?_
  refine Go.iconst (z := (2 : Int32)) (pc' := 16) C X103 d21_15 rfl rfl ?_
  refine Go.bipush (z := (115 : Int32)) (pc' := 18) C X103 d21_16 rfl rfl ?_
  refine Go.stC (i := 2) (x' := (115 : Int32)) (vs' := [(.int (100 : Int32)), (.int (105 : Int32)), (.int (115 : Int32)), (.int (0 : Int32)), (.int (0 : Int32)), (.int (0 : Int32)), (.int (0 : Int32)), (.int (0 : Int32)), (.int (0 : Int32)), (.int (0 : Int32)), (.int (0 : Int32)), (.int (0 : Int32)), (.int (0 : Int32)), (.int (0 : Int32)), (.int (0 : Int32)), (.int (0 : Int32)), (.int (0 : Int32))]) (pc' := 19) C X103 e103 A103 (by decide) (by decide) (by simp) (by decide) rfl d21_18 rfl ?_
  intro T104 h104 X104 e104 W104 A104
  have N104 := Fr.snoc X104 N103 n_b101
  refine Go.dup (pc' := 20) C X104 d21_19 rfl rfl ?_
  refine Go.iconst (z := (3 : Int32)) (pc' := 21) C X104 d21_20 rfl rfl ?_
  refine Go.bipush (z := (116 : Int32)) (pc' := 23) C X104 d21_21 rfl rfl ?_
  refine Go.stC (i := 3) (x' := (116 : Int32)) (vs' := [(.int (100 : Int32)), (.int (105 : Int32)), (.int (115 : Int32)), (.int (116 : Int32)), (.int (0 : Int32)), (.int (0 : Int32)), (.int (0 : Int32)), (.int (0 : Int32)), (.int (0 : Int32)), (.int (0 : Int32)), (.int (0 : Int32)), (.int (0 : Int32)), (.int (0 : Int32)), (.int (0 : Int32)), (.int (0 : Int32)), (.int (0 : Int32)), (.int (0 : Int32))]) (pc' := 24) C X104 e104 A104 (by decide) (by decide) (by simp) (by decide) rfl d21_23 rfl ?_
  intro T105 h105 X105 e105 W105 A105
  have N105 := Fr.snoc X105 N104 n_b101
  refine Go.dup (pc' := 25) C X105 d21_24 rfl rfl ?_
  refine Go.iconst (z := (4 : Int32)) (pc' := 26) C X105 d21_25 rfl rfl ?_
  refine Go.bipush (z := (114 : Int32)) (pc' := 28) C X105 d21_26 rfl rfl ?_
  refine Go.stC (i := 4) (x' := (114 : Int32)) (vs' := [(.int (100 : Int32)), (.int (105 : Int32)), (.int (115 : Int32)), (.int (116 : Int32)), (.int (114 : Int32)), (.int (0 : Int32)), (.int (0 : Int32)), (.int (0 : Int32)), (.int (0 : Int32)), (.int (0 : Int32)), (.int (0 : Int32)), (.int (0 : Int32)), (.int (0 : Int32)), (.int (0 : Int32)), (.int (0 : Int32)), (.int (0 : Int32)), (.int (0 : Int32))]) (pc' := 29) C X105 e105 A105 (by decide) (by decide) (by simp) (by decide) rfl d21_28 rfl ?_
  intro T106 h106 X106 e106 W106 A106
  have N106 := Fr.snoc X106 N105 n_b101
  refine Go.dup (pc' := 30) C X106 d21_29 rfl rfl ?_
  refine Go.iconst (z := (5 : Int32)) (pc' := 31) C X106 d21_30 rfl rfl ?_
  refine Go.bipush (z := (105 : Int32)) (pc' := 33) C X106 d21_31 rfl rfl ?_
  refine Go.stC (i := 5) (x' := (105 : Int32)) (vs' := [(.int (100 : Int32)), (.int (105 : Int32)), (.int (115 : Int32)), (.int (116 : Int32)), (.int (114 : Int32)), (.int (105 : Int32)), (.int (0 : Int32)), (.int (0 : Int32)), (.int (0 : Int32)), (.int (0 : Int32)), (.int (0 : Int32)), (.int (0 : Int32)), (.int (0 : Int32)), (.int (0 : Int32)), (.int (0 : Int32)), (.int (0 : Int32)), (.int (0 : Int32))]) (pc' := 34) C X106 e106 A106 (by decide) (by decide) (by simp) (by decide) rfl d21_33 rfl ?_
  intro T107 h107 X107 e107 W107 A107
  have N107 := Fr.snoc X107 N106 n_b101
  refine Go.dup (pc' := 35) C X107 d21_34 rfl rfl ?_
  refine Go.bipush (z := (6 : Int32)) (pc' := 37) C X107 d21_35 rfl rfl ?_
  refine Go.bipush (z := (99 : Int32)) (pc' := 39) C X107 d21_37 rfl rfl ?_
  refine Go.stC (i := 6) (x' := (99 : Int32)) (vs' := [(.int (100 : Int32)), (.int (105 : Int32)), (.int (115 : Int32)), (.int (116 : Int32)), (.int (114 : Int32)), (.int (105 : Int32)), (.int (99 : Int32)), (.int (0 : Int32)), (.int (0 : Int32)), (.int (0 : Int32)), (.int (0 : Int32)), (.int (0 : Int32)), (.int (0 : Int32)), (.int (0 : Int32)), (.int (0 : Int32)), (.int (0 : Int32)), (.int (0 : Int32))]) (pc' := 40) C X107 e107 A107 (by decide) (by decide) (by simp) (by decide) rfl d21_39 rfl ?_
  intro T108 h108 X108 e108 W108 A108
  have N108 := Fr.snoc X108 N107 n_b101
  refine Go.dup (pc' := 41) C X108 d21_40 rfl rfl ?_
  refine Go.bipush (z := (7 : Int32)) (pc' := 43) C X108 d21_41 rfl rfl ?_
  refine Go.bipush (z := (116 : Int32)) (pc' := 45) C X108 d21_43 rfl rfl ?_
  refine Go.stC (i := 7) (x' := (116 : Int32)) (vs' := [(.int (100 : Int32)), (.int (105 : Int32)), (.int (115 : Int32)), (.int (116 : Int32)), (.int (114 : Int32)), (.int (105 : Int32)), (.int (99 : Int32)), (.int (116 : Int32)), (.int (0 : Int32)), (.int (0 : Int32)), (.int (0 : Int32)), (.int (0 : Int32)), (.int (0 : Int32)), (.int (0 : Int32)), (.int (0 : Int32)), (.int (0 : Int32)), (.int (0 : Int32))]) (pc' := 46) C X108 e108 A108 (by decide) (by decide) (by simp) (by decide) rfl d21_45 rfl ?_
  intro T109 h109 X109 e109 W109 A109
  have N109 := Fr.snoc X109 N108 n_b101
  refine Go.dup (pc' := 47) C X109 d21_46 rfl rfl ?_
  refine Go.bipush (z := (8 : Int32)) (pc' := 49) C X109 d21_47 rfl rfl ?_
  refine Go.bipush (z := (45 : Int32)) (pc' := 51) C X109 d21_49 rfl rfl ?_
  refine Go.stC (i := 8) (x' := (45 : Int32)) (vs' := [(.int (100 : Int32)), (.int (105 : Int32)), (.int (115 : Int32)), (.int (116 : Int32)), (.int (114 : Int32)), (.int (105 : Int32)), (.int (99 : Int32)), (.int (116 : Int32)), (.int (45 : Int32)), (.int (0 : Int32)), (.int (0 : Int32)), (.int (0 : Int32)), (.int (0 : Int32)), (.int (0 : Int32)), (.int (0 : Int32)), (.int (0 : Int32)), (.int (0 : Int32))]) (pc' := 52) C X109 e109 A109 (by decide) (by decide) (by simp) (by decide) rfl d21_51 rfl ?_
  intro T110 h110 X110 e110 W110 A110
  have N110 := Fr.snoc X110 N109 n_b101
  refine Go.dup (pc' := 53) C X110 d21_52 rfl rfl ?_
  refine Go.bipush (z := (9 : Int32)) (pc' := 55) C X110 d21_53 rfl rfl ?_
  refine Go.bipush (z := (97 : Int32)) (pc' := 57) C X110 d21_55 rfl rfl ?_
  refine Go.stC (i := 9) (x' := (97 : Int32)) (vs' := [(.int (100 : Int32)), (.int (105 : Int32)), (.int (115 : Int32)), (.int (116 : Int32)), (.int (114 : Int32)), (.int (105 : Int32)), (.int (99 : Int32)), (.int (116 : Int32)), (.int (45 : Int32)), (.int (97 : Int32)), (.int (0 : Int32)), (.int (0 : Int32)), (.int (0 : Int32)), (.int (0 : Int32)), (.int (0 : Int32)), (.int (0 : Int32)), (.int (0 : Int32))]) (pc' := 58) C X110 e110 A110 (by decide) (by decide) (by simp) (by decide) rfl d21_57 rfl ?_
  intro T111 h111 X111 e111 W111 A111
  have N111 := Fr.snoc X111 N110 n_b101
  refine Go.dup (pc' := 59) C X111 d21_58 rfl rfl ?_
  refine Go.bipush (z := (10 : Int32)) (pc' := 61) C X111 d21_59 rfl rfl ?_
  refine Go.bipush (z := (116 : Int32)) (pc' := 63) C X111 d21_61 rfl rfl ?_
  refine Go.stC (i := 10) (x' := (116 : Int32)) (vs' := [(.int (100 : Int32)), (.int (105 : Int32)), (.int (115 : Int32)), (.int (116 : Int32)), (.int (114 : Int32)), (.int (105 : Int32)), (.int (99 : Int32)), (.int (116 : Int32)), (.int (45 : Int32)), (.int (97 : Int32)), (.int (116 : Int32)), (.int (0 : Int32)), (.int (0 : Int32)), (.int (0 : Int32)), (.int (0 : Int32)), (.int (0 : Int32)), (.int (0 : Int32))]) (pc' := 64) C X111 e111 A111 (by decide) (by decide) (by simp) (by decide) rfl d21_63 rfl ?_
  intro T112 h112 X112 e112 W112 A112
  have N112 := Fr.snoc X112 N111 n_b101
  refine Go.dup (pc' := 65) C X112 d21_64 rfl rfl ?_
  refine Go.bipush (z := (11 : Int32)) (pc' := 67) C X112 d21_65 rfl rfl ?_
  refine Go.bipush (z := (116 : Int32)) (pc' := 69) C X112 d21_67 rfl rfl ?_
  refine Go.stC (i := 11) (x' := (116 : Int32)) (vs' := [(.int (100 : Int32)), (.int (105 : Int32)), (.int (115 : Int32)), (.int (116 : Int32)), (.int (114 : Int32)), (.int (105 : Int32)), (.int (99 : Int32)), (.int (116 : Int32)), (.int (45 : Int32)), (.int (97 : Int32)), (.int (116 : Int32)), (.int (116 : Int32)), (.int (0 : Int32)), (.int (0 : Int32)), (.int (0 : Int32)), (.int (0 : Int32)), (.int (0 : Int32))]) (pc' := 70) C X112 e112 A112 (by decide) (by decide) (by simp) (by decide) rfl d21_69 rfl ?_
  intro T113 h113 X113 e113 W113 A113
  have N113 := Fr.snoc X113 N112 n_b101
  refine Go.dup (pc' := 71) C X113 d21_70 rfl rfl ?_
  refine Go.bipush (z := (12 : Int32)) (pc' := 73) C X113 d21_71 rfl rfl ?_
  refine Go.bipush (z := (111 : Int32)) (pc' := 75) C X113 d21_73 rfl rfl ?_
  refine Go.stC (i := 12) (x' := (111 : Int32)) (vs' := [(.int (100 : Int32)), (.int (105 : Int32)), (.int (115 : Int32)), (.int (116 : Int32)), (.int (114 : Int32)), (.int (105 : Int32)), (.int (99 : Int32)), (.int (116 : Int32)), (.int (45 : Int32)), (.int (97 : Int32)), (.int (116 : Int32)), (.int (116 : Int32)), (.int (111 : Int32)), (.int (0 : Int32)), (.int (0 : Int32)), (.int (0 : Int32)), (.int (0 : Int32))]) (pc' := 76) C X113 e113 A113 (by decide) (by decide) (by simp) (by decide) rfl d21_75 rfl ?_
  intro T114 h114 X114 e114 W114 A114
  have N114 := Fr.snoc X114 N113 n_b101
  refine Go.dup (pc' := 77) C X114 d21_76 rfl rfl ?_
  refine Go.bipush (z := (13 : Int32)) (pc' := 79) C X114 d21_77 rfl rfl ?_
  refine Go.bipush (z := (114 : Int32)) (pc' := 81) C X114 d21_79 rfl rfl ?_
  refine Go.stC (i := 13) (x' := (114 : Int32)) (vs' := [(.int (100 : Int32)), (.int (105 : Int32)), (.int (115 : Int32)), (.int (116 : Int32)), (.int (114 : Int32)), (.int (105 : Int32)), (.int (99 : Int32)), (.int (116 : Int32)), (.int (45 : Int32)), (.int (97 : Int32)), (.int (116 : Int32)), (.int (116 : Int32)), (.int (111 : Int32)), (.int (114 : Int32)), (.int (0 : Int32)), (.int (0 : Int32)), (.int (0 : Int32))]) (pc' := 82) C X114 e114 A114 (by decide) (by decide) (by simp) (by decide) rfl d21_81 rfl ?_
  intro T115 h115 X115 e115 W115 A115
  have N115 := Fr.snoc X115 N114 n_b101
  refine Go.dup (pc' := 83) C X115 d21_82 rfl rfl ?_
  refine Go.bipush (z := (14 : Int32)) (pc' := 85) C X115 d21_83 rfl rfl ?_
  refine Go.bipush (z := (110 : Int32)) (pc' := 87) C X115 d21_85 rfl rfl ?_
  refine Go.stC (i := 14) (x' := (110 : Int32)) (vs' := [(.int (100 : Int32)), (.int (105 : Int32)), (.int (115 : Int32)), (.int (116 : Int32)), (.int (114 : Int32)), (.int (105 : Int32)), (.int (99 : Int32)), (.int (116 : Int32)), (.int (45 : Int32)), (.int (97 : Int32)), (.int (116 : Int32)), (.int (116 : Int32)), (.int (111 : Int32)), (.int (114 : Int32)), (.int (110 : Int32)), (.int (0 : Int32)), (.int (0 : Int32))]) (pc' := 88) C X115 e115 A115 (by decide) (by decide) (by simp) (by decide) rfl d21_87 rfl ?_
  intro T116 h116 X116 e116 W116 A116
  have N116 := Fr.snoc X116 N115 n_b101
  refine Go.dup (pc' := 89) C X116 d21_88 rfl rfl ?_
  refine Go.bipush (z := (15 : Int32)) (pc' := 91) C X116 d21_89 rfl rfl ?_
  refine Go.bipush (z := (101 : Int32)) (pc' := 93) C X116 d21_91 rfl rfl ?_
  refine Go.stC (i := 15) (x' := (101 : Int32)) (vs' := [(.int (100 : Int32)), (.int (105 : Int32)), (.int (115 : Int32)), (.int (116 : Int32)), (.int (114 : Int32)), (.int (105 : Int32)), (.int (99 : Int32)), (.int (116 : Int32)), (.int (45 : Int32)), (.int (97 : Int32)), (.int (116 : Int32)), (.int (116 : Int32)), (.int (111 : Int32)), (.int (114 : Int32)), (.int (110 : Int32)), (.int (101 : Int32)), (.int (0 : Int32))]) (pc' := 94) C X116 e116 A116 (by decide) (by decide) (by simp) (by decide) rfl d21_93 rfl ?_
  intro T117 h117 X117 e117 W117 A117
  have N117 := Fr.snoc X117 N116 n_b101
  refine Go.dup (pc' := 95) C X117 d21_94 rfl rfl ?_
  refine Go.bipush (z := (16 : Int32)) (pc' := 97) C X117 d21_95 rfl rfl ?_
  refine Go.bipush (z := (121 : Int32)) (pc' := 99) C X117 d21_97 rfl rfl ?_
  refine Go.stC (i := 16) (x' := (121 : Int32)) (vs' := [(.int (100 : Int32)), (.int (105 : Int32)), (.int (115 : Int32)), (.int (116 : Int32)), (.int (114 : Int32)), (.int (105 : Int32)), (.int (99 : Int32)), (.int (116 : Int32)), (.int (45 : Int32)), (.int (97 : Int32)), (.int (116 : Int32)), (.int (116 : Int32)), (.int (111 : Int32)), (.int (114 : Int32)), (.int (110 : Int32)), (.int (101 : Int32)), (.int (121 : Int32))]) (pc' := 100) C X117 e117 A117 (by decide) (by decide) (by simp) (by decide) rfl d21_99 rfl ?_
  intro T118 h118 X118 e118 W118 A118
  have N118 := Fr.snoc X118 N117 n_b101
  have K119 : Keep h0 h118 [] := (((((((((((((((((((Keep.refl h0 []).ext E101).wr W102 (Or.inr z_b101)).wr W103 (Or.inr z_b101)).wr W104 (Or.inr z_b101)).wr W105 (Or.inr z_b101)).wr W106 (Or.inr z_b101)).wr W107 (Or.inr z_b101)).wr W108 (Or.inr z_b101)).wr W109 (Or.inr z_b101)).wr W110 (Or.inr z_b101)).wr W111 (Or.inr z_b101)).wr W112 (Or.inr z_b101)).wr W113 (Or.inr z_b101)).wr W114 (Or.inr z_b101)).wr W115 (Or.inr z_b101)).wr W116 (Or.inr z_b101)).wr W117 (Or.inr z_b101)).wr W118 (Or.inr z_b101))
  exact Go.retA C X118 rfl d21_100 rfl rfl rfl (by rw [e118]; exact ⟨b101, k101, rfl, N118, K119, z_b101, A118⟩) (by decide) (by decide)
theorem pf_12 : plainFor mN7 = true := plainFor_of_name (by first | (simp [plainName, overriddenIn]; done) | decide +kernel)
theorem d12_0 : decode method_5_code 0 = .ok (.bipush 14, 2) := by decide +kernel
theorem d12_2 : decode method_5_code 2 = .ok (.newarray .char, 2) := by decide +kernel
theorem d12_4 : decode method_5_code 4 = .ok (.dup, 1) := by decide +kernel
theorem d12_5 : decode method_5_code 5 = .ok (.iconst 0, 1) := by decide +kernel
theorem d12_6 : decode method_5_code 6 = .ok (.bipush 108, 2) := by decide +kernel
theorem d12_8 : decode method_5_code 8 = .ok (.castore, 1) := by decide +kernel
theorem d12_9 : decode method_5_code 9 = .ok (.dup, 1) := by decide +kernel
theorem d12_10 : decode method_5_code 10 = .ok (.iconst 1, 1) := by decide +kernel
theorem d12_11 : decode method_5_code 11 = .ok (.bipush 97, 2) := by decide +kernel
theorem d12_13 : decode method_5_code 13 = .ok (.castore, 1) := by decide +kernel
theorem d12_14 : decode method_5_code 14 = .ok (.dup, 1) := by decide +kernel
theorem d12_15 : decode method_5_code 15 = .ok (.iconst 2, 1) := by decide +kernel
theorem d12_16 : decode method_5_code 16 = .ok (.bipush 119, 2) := by decide +kernel
theorem d12_18 : decode method_5_code 18 = .ok (.castore, 1) := by decide +kernel
theorem d12_19 : decode method_5_code 19 = .ok (.dup, 1) := by decide +kernel
theorem d12_20 : decode method_5_code 20 = .ok (.iconst 3, 1) := by decide +kernel
theorem d12_21 : decode method_5_code 21 = .ok (.bipush 45, 2) := by decide +kernel
theorem d12_23 : decode method_5_code 23 = .ok (.castore, 1) := by decide +kernel
theorem d12_24 : decode method_5_code 24 = .ok (.dup, 1) := by decide +kernel
theorem d12_25 : decode method_5_code 25 = .ok (.iconst 4, 1) := by decide +kernel
theorem d12_26 : decode method_5_code 26 = .ok (.bipush 101, 2) := by decide +kernel
theorem d12_28 : decode method_5_code 28 = .ok (.castore, 1) := by decide +kernel
theorem d12_29 : decode method_5_code 29 = .ok (.dup, 1) := by decide +kernel
theorem d12_30 : decode method_5_code 30 = .ok (.iconst 5, 1) := by decide +kernel
theorem d12_31 : decode method_5_code 31 = .ok (.bipush 110, 2) := by decide +kernel
theorem d12_33 : decode method_5_code 33 = .ok (.castore, 1) := by decide +kernel
theorem d12_34 : decode method_5_code 34 = .ok (.dup, 1) := by decide +kernel
theorem d12_35 : decode method_5_code 35 = .ok (.bipush 6, 2) := by decide +kernel
theorem d12_37 : decode method_5_code 37 = .ok (.bipush 102, 2) := by decide +kernel
theorem d12_39 : decode method_5_code 39 = .ok (.castore, 1) := by decide +kernel
theorem d12_40 : decode method_5_code 40 = .ok (.dup, 1) := by decide +kernel
theorem d12_41 : decode method_5_code 41 = .ok (.bipush 7, 2) := by decide +kernel
theorem d12_43 : decode method_5_code 43 = .ok (.bipush 111, 2) := by decide +kernel
theorem d12_45 : decode method_5_code 45 = .ok (.castore, 1) := by decide +kernel
theorem d12_46 : decode method_5_code 46 = .ok (.dup, 1) := by decide +kernel
theorem d12_47 : decode method_5_code 47 = .ok (.bipush 8, 2) := by decide +kernel
theorem d12_49 : decode method_5_code 49 = .ok (.bipush 114, 2) := by decide +kernel
theorem d12_51 : decode method_5_code 51 = .ok (.castore, 1) := by decide +kernel
theorem d12_52 : decode method_5_code 52 = .ok (.dup, 1) := by decide +kernel
theorem d12_53 : decode method_5_code 53 = .ok (.bipush 9, 2) := by decide +kernel
theorem d12_55 : decode method_5_code 55 = .ok (.bipush 99, 2) := by decide +kernel
theorem d12_57 : decode method_5_code 57 = .ok (.castore, 1) := by decide +kernel
theorem d12_58 : decode method_5_code 58 = .ok (.dup, 1) := by decide +kernel
theorem d12_59 : decode method_5_code 59 = .ok (.bipush 10, 2) := by decide +kernel
theorem d12_61 : decode method_5_code 61 = .ok (.bipush 101, 2) := by decide +kernel
theorem d12_63 : decode method_5_code 63 = .ok (.castore, 1) := by decide +kernel
theorem d12_64 : decode method_5_code 64 = .ok (.dup, 1) := by decide +kernel
theorem d12_65 : decode method_5_code 65 = .ok (.bipush 11, 2) := by decide +kernel
theorem d12_67 : decode method_5_code 67 = .ok (.bipush 109, 2) := by decide +kernel
theorem d12_69 : decode method_5_code 69 = .ok (.castore, 1) := by decide +kernel
theorem d12_70 : decode method_5_code 70 = .ok (.dup, 1) := by decide +kernel
theorem d12_71 : decode method_5_code 71 = .ok (.bipush 12, 2) := by decide +kernel
theorem d12_73 : decode method_5_code 73 = .ok (.bipush 101, 2) := by decide +kernel
theorem d12_75 : decode method_5_code 75 = .ok (.castore, 1) := by decide +kernel
theorem d12_76 : decode method_5_code 76 = .ok (.dup, 1) := by decide +kernel
theorem d12_77 : decode method_5_code 77 = .ok (.bipush 13, 2) := by decide +kernel
theorem d12_79 : decode method_5_code 79 = .ok (.bipush 110, 2) := by decide +kernel
theorem d12_81 : decode method_5_code 81 = .ok (.castore, 1) := by decide +kernel
theorem d12_82 : decode method_5_code 82 = .ok (.areturn, 1) := by decide +kernel
def Q_ar_leShorter (Z : State)  (h0 : Heap) (rv : Option Value) (h : Heap) (L : List Loc) : Prop := ∃ a : Addr, ∃ ka : ClassId, rv = some (.ref a) ∧ Fr Z.heap.size L ∧ Keep h0 h [] ∧ h0.size ≤ a ∧ AL Z h a ka .char (ch16 leS)
theorem rm_ar_leShorter (l : Launch) (Z : State) (a0 : Array Value) (hw : ∀ d ∈ tables_1, d.before a0 Z = true)  (h0 : Heap) (O0 : Ext Z.heap h0) :
    Met1 l Z mN7 method_5_code 0 (some (.array .char)) ({ frames := 0, cells := 1, slots := 14, locals := 0 } : Room) #[] h0 (Q_ar_leShorter Z  h0) := by
  refine Met1.of_body (Ls := #[]) pf_12 (fun m => by first | (simp [entryFrame, mkF, argsToLocals, Value.category]; done) | rfl) ?_
  intro p e s m below meth c T0 C X0 e0
  have N0 : Fr Z.heap.size [] := Fr.nil _
  refine Go.bipush (z := (14 : Int32)) (pc' := 2) C X0 d12_0 rfl rfl ?_
  refine Go.newP (aty := .char) (cap := 14) (vs := [(.int (0 : Int32)), (.int (0 : Int32)), (.int (0 : Int32)), (.int (0 : Int32)), (.int (0 : Int32)), (.int (0 : Int32)), (.int (0 : Int32)), (.int (0 : Int32)), (.int (0 : Int32)), (.int (0 : Int32)), (.int (0 : Int32)), (.int (0 : Int32)), (.int (0 : Int32)), (.int (0 : Int32))]) (ad := "[C") (pc' := 4) C X0 (by decide) (tw hw 8 rfl) e0 (by decide) (by decide) (by decide) (by decide) (by decide) rfl d12_2 rfl ?_
  intro T101 h101 b101 k101 X101 e101 g101 E101 A101 Ea101
  have n_b101 : Z.heap.size ≤ b101 := Nat.le_trans O0.1 (Nat.le_of_eq g101.symm)
  have z_b101 : h0.size ≤ b101 := Nat.le_trans (Nat.le_refl _) (Nat.le_of_eq g101.symm)
  have A101 : AL Z h101 b101 k101 .char [(.int (0 : Int32)), (.int (0 : Int32)), (.int (0 : Int32)), (.int (0 : Int32)), (.int (0 : Int32)), (.int (0 : Int32)), (.int (0 : Int32)), (.int (0 : Int32)), (.int (0 : Int32)), (.int (0 : Int32)), (.int (0 : Int32)), (.int (0 : Int32)), (.int (0 : Int32)), (.int (0 : Int32))] := A101
  refine Go.dup (pc' := 5) C X101 d12_4 rfl rfl ?_
  refine Go.iconst (z := (0 : Int32)) (pc' := 6) C X101 d12_5 rfl rfl ?_
  refine Go.bipush (z := (108 : Int32)) (pc' := 8) C X101 d12_6 rfl rfl ?_
  refine Go.stC (i := 0) (x' := (108 : Int32)) (vs' := [(.int (108 : Int32)), (.int (0 : Int32)), (.int (0 : Int32)), (.int (0 : Int32)), (.int (0 : Int32)), (.int (0 : Int32)), (.int (0 : Int32)), (.int (0 : Int32)), (.int (0 : Int32)), (.int (0 : Int32)), (.int (0 : Int32)), (.int (0 : Int32)), (.int (0 : Int32)), (.int (0 : Int32))]) (pc' := 9) C X101 e101 A101 (by decide) (by decide) (by simp) (by decide) rfl d12_8 rfl ?_
  intro T102 h102 X102 e102 W102 A102
  have N102 := Fr.snoc X102 N0 n_b101
  refine Go.dup (pc' := 10) C X102 d12_9 rfl rfl ?_
  refine Go.iconst (z := (1 : Int32)) (pc' := 11) C X102 d12_10 rfl rfl ?_
  refine Go.bipush (z := (97 : Int32)) (pc' := 13) C X102 d12_11 rfl rfl ?_
  refine Go.stC (i := 1) (x' := (97 : Int32)) (vs' := [(.int (108 : Int32)), (.int (97 : Int32)), (.int (0 : Int32)), (.int (0 : Int32)), (.int (0 : Int32)), (.int (0 : Int32)), (.int (0 : Int32)), (.int (0 : Int32)), (.int (0 : Int32)), (.int (0 : Int32)), (.int (0 : Int32)), (.int (0 : Int32)), (.int (0 : Int32)), (.int (0 : Int32))]) (pc' := 14) C X102 e102 A102 (by decide) (by decide) (by simp) (by decide) rfl d12_13 rfl ?_
  intro T103 h103 X103 e103 W103 A103
  have N103 := Fr.snoc X103 N102 n_b101
  refine Go.dup (pc' := 15) C X103 d12_14 rfl rfl ?_
  refine Go.iconst (z := (2 : Int32)) (pc' := 16) C X103 d12_15 rfl rfl ?_
  refine Go.bipush (z := (119 : Int32)) (pc' := 18) C X103 d12_16 rfl rfl ?_
  refine Go.stC (i := 2) (x' := (119 : Int32)) (vs' := [(.int (108 : Int32)), (.int (97 : Int32)), (.int (119 : Int32)), (.int (0 : Int32)), (.int (0 : Int32)), (.int (0 : Int32)), (.int (0 : Int32)), (.int (0 : Int32)), (.int (0 : Int32)), (.int (0 : Int32)), (.int (0 : Int32)), (.int (0 : Int32)), (.int (0 : Int32)), (.int (0 : Int32))]) (pc' := 19) C X103 e103 A103 (by decide) (by decide) (by simp) (by decide) rfl d12_18 rfl ?_
  intro T104 h104 X104 e104 W104 A104
  have N104 := Fr.snoc X104 N103 n_b101
  refine Go.dup (pc' := 20) C X104 d12_19 rfl rfl ?_
  refine Go.iconst (z := (3 : Int32)) (pc' := 21) C X104 d12_20 rfl rfl ?_
  refine Go.bipush (z := (45 : Int32)) (pc' := 23) C X104 d12_21 rfl rfl ?_
  refine Go.stC (i := 3) (x' := (45 : Int32)) (vs' := [(.int (108 : Int32)), (.int (97 : Int32)), (.int (119 : Int32)), (.int (45 : Int32)), (.int (0 : Int32)), (.int (0 : Int32)), (.int (0 : Int32)), (.int (0 : Int32)), (.int (0 : Int32)), (.int (0 : Int32)), (.int (0 : Int32)), (.int (0 : Int32)), (.int (0 : Int32)), (.int (0 : Int32))]) (pc' := 24) C X104 e104 A104 (by decide) (by decide) (by simp) (by decide) rfl d12_23 rfl ?_
  intro T105 h105 X105 e105 W105 A105
  have N105 := Fr.snoc X105 N104 n_b101
  refine Go.dup (pc' := 25) C X105 d12_24 rfl rfl ?_
  refine Go.iconst (z := (4 : Int32)) (pc' := 26) C X105 d12_25 rfl rfl ?_
  refine Go.bipush (z := (101 : Int32)) (pc' := 28) C X105 d12_26 rfl rfl ?_
  refine Go.stC (i := 4) (x' := (101 : Int32)) (vs' := [(.int (108 : Int32)), (.int (97 : Int32)), (.int (119 : Int32)), (.int (45 : Int32)), (.int (101 : Int32)), (.int (0 : Int32)), (.int (0 : Int32)), (.int (0 : Int32)), (.int (0 : Int32)), (.int (0 : Int32)), (.int (0 : Int32)), (.int (0 : Int32)), (.int (0 : Int32)), (.int (0 : Int32))]) (pc' := 29) C X105 e105 A105 (by decide) (by decide) (by simp) (by decide) rfl d12_28 rfl ?_
  intro T106 h106 X106 e106 W106 A106
  have N106 := Fr.snoc X106 N105 n_b101
  refine Go.dup (pc' := 30) C X106 d12_29 rfl rfl ?_
  refine Go.iconst (z := (5 : Int32)) (pc' := 31) C X106 d12_30 rfl rfl ?_
  refine Go.bipush (z := (110 : Int32)) (pc' := 33) C X106 d12_31 rfl rfl ?_
  refine Go.stC (i := 5) (x' := (110 : Int32)) (vs' := [(.int (108 : Int32)), (.int (97 : Int32)), (.int (119 : Int32)), (.int (45 : Int32)), (.int (101 : Int32)), (.int (110 : Int32)), (.int (0 : Int32)), (.int (0 : Int32)), (.int (0 : Int32)), (.int (0 : Int32)), (.int (0 : Int32)), (.int (0 : Int32)), (.int (0 : Int32)), (.int (0 : Int32))]) (pc' := 34) C X106 e106 A106 (by decide) (by decide) (by simp) (by decide) rfl d12_33 rfl ?_
  intro T107 h107 X107 e107 W107 A107
  have N107 := Fr.snoc X107 N106 n_b101
  refine Go.dup (pc' := 35) C X107 d12_34 rfl rfl ?_
  refine Go.bipush (z := (6 : Int32)) (pc' := 37) C X107 d12_35 rfl rfl ?_
  refine Go.bipush (z := (102 : Int32)) (pc' := 39) C X107 d12_37 rfl rfl ?_
  refine Go.stC (i := 6) (x' := (102 : Int32)) (vs' := [(.int (108 : Int32)), (.int (97 : Int32)), (.int (119 : Int32)), (.int (45 : Int32)), (.int (101 : Int32)), (.int (110 : Int32)), (.int (102 : Int32)), (.int (0 : Int32)), (.int (0 : Int32)), (.int (0 : Int32)), (.int (0 : Int32)), (.int (0 : Int32)), (.int (0 : Int32)), (.int (0 : Int32))]) (pc' := 40) C X107 e107 A107 (by decide) (by decide) (by simp) (by decide) rfl d12_39 rfl ?_
  intro T108 h108 X108 e108 W108 A108
  have N108 := Fr.snoc X108 N107 n_b101
  refine Go.dup (pc' := 41) C X108 d12_40 rfl rfl ?_
  refine Go.bipush (z := (7 : Int32)) (pc' := 43) C X108 d12_41 rfl rfl ?_
  refine Go.bipush (z := (111 : Int32)) (pc' := 45) C X108 d12_43 rfl rfl ?_
  refine Go.stC (i := 7) (x' := (111 : Int32)) (vs' := [(.int (108 : Int32)), (.int (97 : Int32)), (.int (119 : Int32)), (.int (45 : Int32)), (.int (101 : Int32)), (.int (110 : Int32)), (.int (102 : Int32)), (.int (111 : Int32)), (.int (0 : Int32)), (.int (0 : Int32)), (.int (0 : Int32)), (.int (0 : Int32)), (.int (0 : Int32)), (.int (0 : Int32))]) (pc' := 46) C X108 e108 A108 (by decide) (by decide) (by simp) (by decide) rfl d12_45 rfl ?_
  intro T109 h109 X109 e109 W109 A109
  have N109 := Fr.snoc X109 N108 n_b101
  refine Go.dup (pc' := 47) C X109 d12_46 rfl rfl ?_
  refine Go.bipush (z := (8 : Int32)) (pc' := 49) C X109 d12_47 rfl rfl ?_
  refine Go.bipush (z := (114 : Int32)) (pc' := 51) C X109 d12_49 rfl rfl ?_
  refine Go.stC (i := 8) (x' := (114 : Int32)) (vs' := [(.int (108 : Int32)), (.int (97 : Int32)), (.int (119 : Int32)), (.int (45 : Int32)), (.int (101 : Int32)), (.int (110 : Int32)), (.int (102 : Int32)), (.int (111 : Int32)), (.int (114 : Int32)), (.int (0 : Int32)), (.int (0 : Int32)), (.int (0 : Int32)), (.int (0 : Int32)), (.int (0 : Int32))]) (pc' := 52) C X109 e109 A109 (by decide) (by decide) (by simp) (by decide) rfl d12_51 rfl ?_
  intro T110 h110 X110 e110 W110 A110
  have N110 := Fr.snoc X110 N109 n_b101
  refine Go.dup (pc' := 53) C X110 d12_52 rfl rfl ?_
  refine Go.bipush (z := (9 : Int32)) (pc' := 55) C X110 d12_53 rfl rfl ?_
  refine Go.bipush (z := (99 : Int32)) (pc' := 57) C X110 d12_55 rfl rfl ?_
  refine Go.stC (i := 9) (x' := (99 : Int32)) (vs' := [(.int (108 : Int32)), (.int (97 : Int32)), (.int (119 : Int32)), (.int (45 : Int32)), (.int (101 : Int32)), (.int (110 : Int32)), (.int (102 : Int32)), (.int (111 : Int32)), (.int (114 : Int32)), (.int (99 : Int32)), (.int (0 : Int32)), (.int (0 : Int32)), (.int (0 : Int32)), (.int (0 : Int32))]) (pc' := 58) C X110 e110 A110 (by decide) (by decide) (by simp) (by decide) rfl d12_57 rfl ?_
  intro T111 h111 X111 e111 W111 A111
  have N111 := Fr.snoc X111 N110 n_b101
  refine Go.dup (pc' := 59) C X111 d12_58 rfl rfl ?_
  refine Go.bipush (z := (10 : Int32)) (pc' := 61) C X111 d12_59 rfl rfl ?_
  refine Go.bipush (z := (101 : Int32)) (pc' := 63) C X111 d12_61 rfl rfl ?_
  refine Go.stC (i := 10) (x' := (101 : Int32)) (vs' := [(.int (108 : Int32)), (.int (97 : Int32)), (.int (119 : Int32)), (.int (45 : Int32)), (.int (101 : Int32)), (.int (110 : Int32)), (.int (102 : Int32)), (.int (111 : Int32)), (.int (114 : Int32)), (.int (99 : Int32)), (.int (101 : Int32)), (.int (0 : Int32)), (.int (0 : Int32)), (.int (0 : Int32))]) (pc' := 64) C X111 e111 A111 (by decide) (by decide) (by simp) (by decide) rfl d12_63 rfl ?_
  intro T112 h112 X112 e112 W112 A112
  have N112 := Fr.snoc X112 N111 n_b101
  refine Go.dup (pc' := 65) C X112 d12_64 rfl rfl ?_
  refine Go.bipush (z := (11 : Int32)) (pc' := 67) C X112 d12_65 rfl rfl ?_
  refine Go.bipush (z := (109 : Int32)) (pc' := 69) C X112 d12_67 rfl rfl ?_
  refine Go.stC (i := 11) (x' := (109 : Int32)) (vs' := [(.int (108 : Int32)), (.int (97 : Int32)), (.int (119 : Int32)), (.int (45 : Int32)), (.int (101 : Int32)), (.int (110 : Int32)), (.int (102 : Int32)), (.int (111 : Int32)), (.int (114 : Int32)), (.int (99 : Int32)), (.int (101 : Int32)), (.int (109 : Int32)), (.int (0 : Int32)), (.int (0 : Int32))]) (pc' := 70) C X112 e112 A112 (by decide) (by decide) (by simp) (by decide) rfl d12_69 rfl ?_
  intro T113 h113 X113 e113 W113 A113
  have N113 := Fr.snoc X113 N112 n_b101
  refine Go.dup (pc' := 71) C X113 d12_70 rfl rfl ?_
  refine Go.bipush (z := (12 : Int32)) (pc' := 73) C X113 d12_71 rfl rfl ?_
  refine Go.bipush (z := (101 : Int32)) (pc' := 75) C X113 d12_73 rfl rfl ?_
  refine Go.stC (i := 12) (x' := (101 : Int32)) (vs' := [(.int (108 : Int32)), (.int (97 : Int32)), (.int (119 : Int32)), (.int (45 : Int32)), (.int (101 : Int32)), (.int (110 : Int32)), (.int (102 : Int32)), (.int (111 : Int32)), (.int (114 : Int32)), (.int (99 : Int32)), (.int (101 : Int32)), (.int (109 : Int32)), (.int (101 : Int32)), (.int (0 : Int32))]) (pc' := 76) C X113 e113 A113 (by decide) (by decide) (by simp) (by decide) rfl d12_75 rfl ?_
  intro T114 h114 X114 e114 W114 A114
  have N114 := Fr.snoc X114 N113 n_b101
  refine Go.dup (pc' := 77) C X114 d12_76 rfl rfl ?_
  refine Go.bipush (z := (13 : Int32)) (pc' := 79) C X114 d12_77 rfl rfl ?_
  refine Go.bipush (z := (110 : Int32)) (pc' := 81) C X114 d12_79 rfl rfl ?_
  refine Go.stC (i := 13) (x' := (110 : Int32)) (vs' := [(.int (108 : Int32)), (.int (97 : Int32)), (.int (119 : Int32)), (.int (45 : Int32)), (.int (101 : Int32)), (.int (110 : Int32)), (.int (102 : Int32)), (.int (111 : Int32)), (.int (114 : Int32)), (.int (99 : Int32)), (.int (101 : Int32)), (.int (109 : Int32)), (.int (101 : Int32)), (.int (110 : Int32))]) (pc' := 82) C X114 e114 A114 (by decide) (by decide) (by simp) (by decide) rfl d12_81 rfl ?_
  intro T115 h115 X115 e115 W115 A115
  have N115 := Fr.snoc X115 N114 n_b101
  have K116 : Keep h0 h115 [] := ((((((((((((((((Keep.refl h0 []).ext E101).wr W102 (Or.inr z_b101)).wr W103 (Or.inr z_b101)).wr W104 (Or.inr z_b101)).wr W105 (Or.inr z_b101)).wr W106 (Or.inr z_b101)).wr W107 (Or.inr z_b101)).wr W108 (Or.inr z_b101)).wr W109 (Or.inr z_b101)).wr W110 (Or.inr z_b101)).wr W111 (Or.inr z_b101)).wr W112 (Or.inr z_b101)).wr W113 (Or.inr z_b101)).wr W114 (Or.inr z_b101)).wr W115 (Or.inr z_b101))
  exact Go.retA C X115 rfl d12_82 rfl rfl rfl (by rw [e115]; exact ⟨b101, k101, rfl, N115, K116, z_b101, A115⟩) (by decide) (by decide)
theorem pf_13 : plainFor mN4 = true := plainFor_of_name (by first | (simp [plainName, overriddenIn]; done) | decide +kernel)
theorem d13_0 : decode method_8_code 0 = .ok (.bipush 16, 2) := by decide +kernel
theorem d13_2 : decode method_8_code 2 = .ok (.newarray .char, 2) := by decide +kernel
theorem d13_4 : decode method_8_code 4 = .ok (.dup, 1) := by decide +kernel
theorem d13_5 : decode method_8_code 5 = .ok (.iconst 0, 1) := by decide +kernel
theorem d13_6 : decode method_8_code 6 = .ok (.bipush 100, 2) := by decide +kernel
theorem d13_8 : decode method_8_code 8 = .ok (.castore, 1) := by decide +kernel
theorem d13_9 : decode method_8_code 9 = .ok (.dup, 1) := by decide +kernel
theorem d13_10 : decode method_8_code 10 = .ok (.iconst 1, 1) := by decide +kernel
theorem d13_11 : decode method_8_code 11 = .ok (.bipush 105, 2) := by decide +kernel
theorem d13_13 : decode method_8_code 13 = .ok (.castore, 1) := by decide +kernel
theorem d13_14 : decode method_8_code 14 = .ok (.dup, 1) := by decide +kernel
theorem d13_15 : decode method_8_code 15 = .ok (.iconst 2, 1) := by decide +kernel
theorem d13_16 : decode method_8_code 16 = .ok (.bipush 115, 2) := by decide +kernel
theorem d13_18 : decode method_8_code 18 = .ok (.castore, 1) := by decide +kernel
theorem d13_19 : decode method_8_code 19 = .ok (.dup, 1) := by decide +kernel
theorem d13_20 : decode method_8_code 20 = .ok (.iconst 3, 1) := by decide +kernel
theorem d13_21 : decode method_8_code 21 = .ok (.bipush 116, 2) := by decide +kernel
theorem d13_23 : decode method_8_code 23 = .ok (.castore, 1) := by decide +kernel
theorem d13_24 : decode method_8_code 24 = .ok (.dup, 1) := by decide +kernel
theorem d13_25 : decode method_8_code 25 = .ok (.iconst 4, 1) := by decide +kernel
theorem d13_26 : decode method_8_code 26 = .ok (.bipush 114, 2) := by decide +kernel
theorem d13_28 : decode method_8_code 28 = .ok (.castore, 1) := by decide +kernel
theorem d13_29 : decode method_8_code 29 = .ok (.dup, 1) := by decide +kernel
theorem d13_30 : decode method_8_code 30 = .ok (.iconst 5, 1) := by decide +kernel
theorem d13_31 : decode method_8_code 31 = .ok (.bipush 105, 2) := by decide +kernel
theorem d13_33 : decode method_8_code 33 = .ok (.castore, 1) := by decide +kernel
theorem d13_34 : decode method_8_code 34 = .ok (.dup, 1) := by decide +kernel
theorem d13_35 : decode method_8_code 35 = .ok (.bipush 6, 2) := by decide +kernel
theorem d13_37 : decode method_8_code 37 = .ok (.bipush 99, 2) := by decide +kernel
theorem d13_39 : decode method_8_code 39 = .ok (.castore, 1) := by decide +kernel
theorem d13_40 : decode method_8_code 40 = .ok (.dup, 1) := by decide +kernel
theorem d13_41 : decode method_8_code 41 = .ok (.bipush 7, 2) := by decide +kernel
theorem d13_43 : decode method_8_code 43 = .ok (.bipush 116, 2) := by decide +kernel
theorem d13_45 : decode method_8_code 45 = .ok (.castore, 1) := by decide +kernel
theorem d13_46 : decode method_8_code 46 = .ok (.dup, 1) := by decide +kernel
theorem d13_47 : decode method_8_code 47 = .ok (.bipush 8, 2) := by decide +kernel
theorem d13_49 : decode method_8_code 49 = .ok (.bipush 45, 2) := by decide +kernel
theorem d13_51 : decode method_8_code 51 = .ok (.castore, 1) := by decide +kernel
theorem d13_52 : decode method_8_code 52 = .ok (.dup, 1) := by decide +kernel
theorem d13_53 : decode method_8_code 53 = .ok (.bipush 9, 2) := by decide +kernel
theorem d13_55 : decode method_8_code 55 = .ok (.bipush 97, 2) := by decide +kernel
theorem d13_57 : decode method_8_code 57 = .ok (.castore, 1) := by decide +kernel
theorem d13_58 : decode method_8_code 58 = .ok (.dup, 1) := by decide +kernel
theorem d13_59 : decode method_8_code 59 = .ok (.bipush 10, 2) := by decide +kernel
theorem d13_61 : decode method_8_code 61 = .ok (.bipush 116, 2) := by decide +kernel
theorem d13_63 : decode method_8_code 63 = .ok (.castore, 1) := by decide +kernel
theorem d13_64 : decode method_8_code 64 = .ok (.dup, 1) := by decide +kernel
theorem d13_65 : decode method_8_code 65 = .ok (.bipush 11, 2) := by decide +kernel
theorem d13_67 : decode method_8_code 67 = .ok (.bipush 116, 2) := by decide +kernel
theorem d13_69 : decode method_8_code 69 = .ok (.castore, 1) := by decide +kernel
theorem d13_70 : decode method_8_code 70 = .ok (.dup, 1) := by decide +kernel
theorem d13_71 : decode method_8_code 71 = .ok (.bipush 12, 2) := by decide +kernel
theorem d13_73 : decode method_8_code 73 = .ok (.bipush 111, 2) := by decide +kernel
theorem d13_75 : decode method_8_code 75 = .ok (.castore, 1) := by decide +kernel
theorem d13_76 : decode method_8_code 76 = .ok (.dup, 1) := by decide +kernel
theorem d13_77 : decode method_8_code 77 = .ok (.bipush 13, 2) := by decide +kernel
theorem d13_79 : decode method_8_code 79 = .ok (.bipush 114, 2) := by decide +kernel
theorem d13_81 : decode method_8_code 81 = .ok (.castore, 1) := by decide +kernel
theorem d13_82 : decode method_8_code 82 = .ok (.dup, 1) := by decide +kernel
theorem d13_83 : decode method_8_code 83 = .ok (.bipush 14, 2) := by decide +kernel
theorem d13_85 : decode method_8_code 85 = .ok (.bipush 110, 2) := by decide +kernel
theorem d13_87 : decode method_8_code 87 = .ok (.castore, 1) := by decide +kernel
theorem d13_88 : decode method_8_code 88 = .ok (.dup, 1) := by decide +kernel
theorem d13_89 : decode method_8_code 89 = .ok (.bipush 15, 2) := by decide +kernel
theorem d13_91 : decode method_8_code 91 = .ok (.bipush 101, 2) := by decide +kernel
theorem d13_93 : decode method_8_code 93 = .ok (.castore, 1) := by decide +kernel
theorem d13_94 : decode method_8_code 94 = .ok (.areturn, 1) := by decide +kernel
def Q_ar_daShorter (Z : State)  (h0 : Heap) (rv : Option Value) (h : Heap) (L : List Loc) : Prop := ∃ a : Addr, ∃ ka : ClassId, rv = some (.ref a) ∧ Fr Z.heap.size L ∧ Keep h0 h [] ∧ h0.size ≤ a ∧ AL Z h a ka .char (ch16 daS)
theorem rm_ar_daShorter (l : Launch) (Z : State) (a0 : Array Value) (hw : ∀ d ∈ tables_1, d.before a0 Z = true)  (h0 : Heap) (O0 : Ext Z.heap h0) :
    Met1 l Z mN4 method_8_code 0 (some (.array .char)) ({ frames := 0, cells := 1, slots := 16, locals := 0 } : Room) #[] h0 (Q_ar_daShorter Z  h0) := by
  refine Met1.of_body (Ls := #[]) pf_13 (fun m => by first | (simp [entryFrame, mkF, argsToLocals, Value.category]; done) | rfl) ?_
  intro p e s m below meth c T0 C X0 e0
  have N0 : Fr Z.heap.size [] := Fr.nil _
  refine Go.bipush (z := (16 : Int32)) (pc' := 2) C X0 d13_0 rfl rfl ?_
  refine Go.newP (aty := .char) (cap := 16) (vs := [(.int (0 : Int32)), (.int (0 : Int32)), (.int (0 : Int32)), (.int (0 : Int32)), (.int (0 : Int32)), (.int (0 : Int32)), (.int (0 : Int32)), (.int (0 : Int32)), (.int (0 : Int32)), (.int (0 : Int32)), (.int (0 : Int32)), (.int (0 : Int32)), (.int (0 : Int32)), (.int (0 : Int32)), (.int (0 : Int32)), (.int (0 : Int32))]) (ad := "[C") (pc' := 4) C X0 (by decide) (tw hw 8 rfl) e0 (by decide) (by decide) (by decide) (by decide) (by decide) rfl d13_2 rfl ?_
  intro T101 h101 b101 k101 X101 e101 g101 E101 A101 Ea101
  have n_b101 : Z.heap.size ≤ b101 := Nat.le_trans O0.1 (Nat.le_of_eq g101.symm)
  have z_b101 : h0.size ≤ b101 := Nat.le_trans (Nat.le_refl _) (Nat.le_of_eq g101.symm)
  have A101 : AL Z h101 b101 k101 .char [(.int (0 : Int32)), (.int (0 : Int32)), (.int (0 : Int32)), (.int (0 : Int32)), (.int (0 : Int32)), (.int (0 : Int32)), (.int (0 : Int32)), (.int (0 : Int32)), (.int (0 : Int32)), (.int (0 : Int32)), (.int (0 : Int32)), (.int (0 : Int32)), (.int (0 : Int32)), (.int (0 : Int32)), (.int (0 : Int32)), (.int (0 : Int32))] := A101
  refine Go.dup (pc' := 5) C X101 d13_4 rfl rfl ?_
  refine Go.iconst (z := (0 : Int32)) (pc' := 6) C X101 d13_5 rfl rfl ?_
  refine Go.bipush (z := (100 : Int32)) (pc' := 8) C X101 d13_6 rfl rfl ?_
  refine Go.stC (i := 0) (x' := (100 : Int32)) (vs' := [(.int (100 : Int32)), (.int (0 : Int32)), (.int (0 : Int32)), (.int (0 : Int32)), (.int (0 : Int32)), (.int (0 : Int32)), (.int (0 : Int32)), (.int (0 : Int32)), (.int (0 : Int32)), (.int (0 : Int32)), (.int (0 : Int32)), (.int (0 : Int32)), (.int (0 : Int32)), (.int (0 : Int32)), (.int (0 : Int32)), (.int (0 : Int32))]) (pc' := 9) C X101 e101 A101 (by decide) (by decide) (by simp) (by decide) rfl d13_8 rfl ?_
  intro T102 h102 X102 e102 W102 A102
  have N102 := Fr.snoc X102 N0 n_b101
  refine Go.dup (pc' := 10) C X102 d13_9 rfl rfl ?_
  refine Go.iconst (z := (1 : Int32)) (pc' := 11) C X102 d13_10 rfl rfl ?_
  refine Go.bipush (z := (105 : Int32)) (pc' := 13) C X102 d13_11 rfl rfl ?_
  refine Go.stC (i := 1) (x' := (105 : Int32)) (vs' := [(.int (100 : Int32)), (.int (105 : Int32)), (.int (0 : Int32)), (.int (0 : Int32)), (.int (0 : Int32)), (.int (0 : Int32)), (.int (0 : Int32)), (.int (0 : Int32)), (.int (0 : Int32)), (.int (0 : Int32)), (.int (0 : Int32)), (.int (0 : Int32)), (.int (0 : Int32)), (.int (0 : Int32)), (.int (0 : Int32)), (.int (0 : Int32))]) (pc' := 14) C X102 e102 A102 (by decide) (by decide) (by simp) (by decide) rfl d13_13 rfl ?_
  intro T103 h103 X103 e103 W103 A103
  have N103 := Fr.snoc X103 N102 n_b101
  refine Go.dup (pc' := 15) C X103 d13_14 rfl rfl ?_
  refine Go.iconst (z := (2 : Int32)) (pc' := 16) C X103 d13_15 rfl rfl ?_
  refine Go.bipush (z := (115 : Int32)) (pc' := 18) C X103 d13_16 rfl rfl ?_
  refine Go.stC (i := 2) (x' := (115 : Int32)) (vs' := [(.int (100 : Int32)), (.int (105 : Int32)), (.int (115 : Int32)), (.int (0 : Int32)), (.int (0 : Int32)), (.int (0 : Int32)), (.int (0 : Int32)), (.int (0 : Int32)), (.int (0 : Int32)), (.int (0 : Int32)), (.int (0 : Int32)), (.int (0 : Int32)), (.int (0 : Int32)), (.int (0 : Int32)), (.int (0 : Int32)), (.int (0 : Int32))]) (pc' := 19) C X103 e103 A103 (by decide) (by decide) (by simp) (by decide) rfl d13_18 rfl ?_
  intro T104 h104 X104 e104 W104 A104
  have N104 := Fr.snoc X104 N103 n_b101
  refine Go.dup (pc' := 20) C X104 d13_19 rfl rfl ?_
  refine Go.iconst (z := (3 : Int32)) (pc' := 21) C X104 d13_20 rfl rfl ?_
  refine Go.bipush (z := (116 : Int32)) (pc' := 23) C X104 d13_21 rfl rfl ?_
  refine Go.stC (i := 3) (x' := (116 : Int32)) (vs' := [(.int (100 : Int32)), (.int (105 : Int32)), (.int (115 : Int32)), (.int (116 : Int32)), (.int (0 : Int32)), (.int (0 : Int32)), (.int (0 : Int32)), (.int (0 : Int32)), (.int (0 : Int32)), (.int (0 : Int32)), (.int (0 : Int32)), (.int (0 : Int32)), (.int (0 : Int32)), (.int (0 : Int32)), (.int (0 : Int32)), (.int (0 : Int32))]) (pc' := 24) C X104 e104 A104 (by decide) (by decide) (by simp) (by decide) rfl d13_23 rfl ?_
  intro T105 h105 X105 e105 W105 A105
  have N105 := Fr.snoc X105 N104 n_b101
  refine Go.dup (pc' := 25) C X105 d13_24 rfl rfl ?_
  refine Go.iconst (z := (4 : Int32)) (pc' := 26) C X105 d13_25 rfl rfl ?_
  refine Go.bipush (z := (114 : Int32)) (pc' := 28) C X105 d13_26 rfl rfl ?_
  refine Go.stC (i := 4) (x' := (114 : Int32)) (vs' := [(.int (100 : Int32)), (.int (105 : Int32)), (.int (115 : Int32)), (.int (116 : Int32)), (.int (114 : Int32)), (.int (0 : Int32)), (.int (0 : Int32)), (.int (0 : Int32)), (.int (0 : Int32)), (.int (0 : Int32)), (.int (0 : Int32)), (.int (0 : Int32)), (.int (0 : Int32)), (.int (0 : Int32)), (.int (0 : Int32)), (.int (0 : Int32))]) (pc' := 29) C X105 e105 A105 (by decide) (by decide) (by simp) (by decide) rfl d13_28 rfl ?_
  intro T106 h106 X106 e106 W106 A106
  have N106 := Fr.snoc X106 N105 n_b101
  refine Go.dup (pc' := 30) C X106 d13_29 rfl rfl ?_
  refine Go.iconst (z := (5 : Int32)) (pc' := 31) C X106 d13_30 rfl rfl ?_
  refine Go.bipush (z := (105 : Int32)) (pc' := 33) C X106 d13_31 rfl rfl ?_
  refine Go.stC (i := 5) (x' := (105 : Int32)) (vs' := [(.int (100 : Int32)), (.int (105 : Int32)), (.int (115 : Int32)), (.int (116 : Int32)), (.int (114 : Int32)), (.int (105 : Int32)), (.int (0 : Int32)), (.int (0 : Int32)), (.int (0 : Int32)), (.int (0 : Int32)), (.int (0 : Int32)), (.int (0 : Int32)), (.int (0 : Int32)), (.int (0 : Int32)), (.int (0 : Int32)), (.int (0 : Int32))]) (pc' := 34) C X106 e106 A106 (by decide) (by decide) (by simp) (by decide) rfl d13_33 rfl ?_
  intro T107 h107 X107 e107 W107 A107
  have N107 := Fr.snoc X107 N106 n_b101
  refine Go.dup (pc' := 35) C X107 d13_34 rfl rfl ?_
  refine Go.bipush (z := (6 : Int32)) (pc' := 37) C X107 d13_35 rfl rfl ?_
  refine Go.bipush (z := (99 : Int32)) (pc' := 39) C X107 d13_37 rfl rfl ?_
  refine Go.stC (i := 6) (x' := (99 : Int32)) (vs' := [(.int (100 : Int32)), (.int (105 : Int32)), (.int (115 : Int32)), (.int (116 : Int32)), (.int (114 : Int32)), (.int (105 : Int32)), (.int (99 : Int32)), (.int (0 : Int32)), (.int (0 : Int32)), (.int (0 : Int32)), (.int (0 : Int32)), (.int (0 : Int32)), (.int (0 : Int32)), (.int (0 : Int32)), (.int (0 : Int32)), (.int (0 : Int32))]) (pc' := 40) C X107 e107 A107 (by decide) (by decide) (by simp) (by decide) rfl d13_39 rfl ?_
  intro T108 h108 X108 e108 W108 A108
  have N108 := Fr.snoc X108 N107 n_b101
  refine Go.dup (pc' := 41) C X108 d13_40 rfl rfl ?_
  refine Go.bipush (z := (7 : Int32)) (pc' := 43) C X108 d13_41 rfl rfl ?_
  refine Go.bipush (z := (116 : Int32)) (pc' := 45) C X108 d13_43 rfl rfl ?_
  refine Go.stC (i := 7) (x' := (116 : Int32)) (vs' := [(.int (100 : Int32)), (.int (105 : Int32)), (.int (115 : Int32)), (.int (116 : Int32)), (.int (114 : Int32)), (.int (105 : Int32)), (.int (99 : Int32)), (.int (116 : Int32)), (.int (0 : Int32)), (.int (0 : Int32)), (.int (0 : Int32)), (.int (0 : Int32)), (.int (0 : Int32)), (.int (0 : Int32)), (.int (0 : Int32)), (.int (0 : Int32))]) (pc' := 46) C X108 e108 A108 (by decide) (by decide) (by simp) (by decide) rfl d13_45 rfl ?_
  intro T109 h109 X109 e109 W109 A109
  have N109 := Fr.snoc X109 N108 n_b101
  refine Go.dup (pc' := 47) C X109 d13_46 rfl rfl ?_
  refine Go.bipush (z := (8 : Int32)) (pc' := 49) C X109 d13_47 rfl rfl ?_
  refine Go.bipush (z := (45 : Int32)) (pc' := 51) C X109 d13_49 rfl rfl ?_
  refine Go.stC (i := 8) (x' := (45 : Int32)) (vs' := [(.int (100 : Int32)), (.int (105 : Int32)), (.int (115 : Int32)), (.int (116 : Int32)), (.int (114 : Int32)), (.int (105 : Int32)), (.int (99 : Int32)), (.int (116 : Int32)), (.int (45 : Int32)), (.int (0 : Int32)), (.int (0 : Int32)), (.int (0 : Int32)), (.int (0 : Int32)), (.int (0 : Int32)), (.int (0 : Int32)), (.int (0 : Int32))]) (pc' := 52) C X109 e109 A109 (by decide) (by decide) (by simp) (by decide) rfl d13_51 rfl ?_
  intro T110 h110 X110 e110 W110 A110
  have N110 := Fr.snoc X110 N109 n_b101
  refine Go.dup (pc' := 53) C X110 d13_52 rfl rfl ?_
  refine Go.bipush (z := (9 : Int32)) (pc' := 55) C X110 d13_53 rfl rfl ?_
  refine Go.bipush (z := (97 : Int32)) (pc' := 57) C X110 d13_55 rfl rfl ?_
  refine Go.stC (i := 9) (x' := (97 : Int32)) (vs' := [(.int (100 : Int32)), (.int (105 : Int32)), (.int (115 : Int32)), (.int (116 : Int32)), (.int (114 : Int32)), (.int (105 : Int32)), (.int (99 : Int32)), (.int (116 : Int32)), (.int (45 : Int32)), (.int (97 : Int32)), (.int (0 : Int32)), (.int (0 : Int32)), (.int (0 : Int32)), (.int (0 : Int32)), (.int (0 : Int32)), (.int (0 : Int32))]) (pc' := 58) C X110 e110 A110 (by decide) (by decide) (by simp) (by decide) rfl d13_57 rfl ?_
  intro T111 h111 X111 e111 W111 A111
  have N111 := Fr.snoc X111 N110 n_b101
  refine Go.dup (pc' := 59) C X111 d13_58 rfl rfl ?_
  refine Go.bipush (z := (10 : Int32)) (pc' := 61) C X111 d13_59 rfl rfl ?_
  refine Go.bipush (z := (116 : Int32)) (pc' := 63) C X111 d13_61 rfl rfl ?_
  refine Go.stC (i := 10) (x' := (116 : Int32)) (vs' := [(.int (100 : Int32)), (.int (105 : Int32)), (.int (115 : Int32)), (.int (116 : Int32)), (.int (114 : Int32)), (.int (105 : Int32)), (.int (99 : Int32)), (.int (116 : Int32)), (.int (45 : Int32)), (.int (97 : Int32)), (.int (116 : Int32)), (.int (0 : Int32)), (.int (0 : Int32)), (.int (0 : Int32)), (.int (0 : Int32)), (.int (0 : Int32))]) (pc' := 64) C X111 e111 A111 (by decide) (by decide) (by simp) (by decide) rfl d13_63 rfl ?_
  intro T112 h112 X112 e112 W112 A112
  have N112 := Fr.snoc X112 N111 n_b101
  refine Go.dup (pc' := 65) C X112 d13_64 rfl rfl ?_
  refine Go.bipush (z := (11 : Int32)) (pc' := 67) C X112 d13_65 rfl rfl ?_
  refine Go.bipush (z := (116 : Int32)) (pc' := 69) C X112 d13_67 rfl rfl ?_
  refine Go.stC (i := 11) (x' := (116 : Int32)) (vs' := [(.int (100 : Int32)), (.int (105 : Int32)), (.int (115 : Int32)), (.int (116 : Int32)), (.int (114 : Int32)), (.int (105 : Int32)), (.int (99 : Int32)), (.int (116 : Int32)), (.int (45 : Int32)), (.int (97 : Int32)), (.int (116 : Int32)), (.int (116 : Int32)), (.int (0 : Int32)), (.int (0 : Int32)), (.int (0 : Int32)), (.int (0 : Int32))]) (pc' := 70) C X112 e112 A112 (by decide) (by decide) (by simp) (by decide) rfl d13_69 rfl ?_
  intro T113 h113 X113 e113 W113 A113
  have N113 := Fr.snoc X113 N112 n_b101
  refine Go.dup (pc' := 71) C X113 d13_70 rfl rfl ?_
  refine Go.bipush (z := (12 : Int32)) (pc' := 73) C X113 d13_71 rfl rfl ?_
  refine Go.bipush (z := (111 : Int32)) (pc' := 75) C X113 d13_73 rfl rfl ?_
  refine Go.stC (i := 12) (x' := (111 : Int32)) (vs' := [(.int (100 : Int32)), (.int (105 : Int32)), (.int (115 : Int32)), (.int (116 : Int32)), (.int (114 : Int32)), (.int (105 : Int32)), (.int (99 : Int32)), (.int (116 : Int32)), (.int (45 : Int32)), (.int (97 : Int32)), (.int (116 : Int32)), (.int (116 : Int32)), (.int (111 : Int32)), (.int (0 : Int32)), (.int (0 : Int32)), (.int (0 : Int32))]) (pc' := 76) C X113 e113 A113 (by decide) (by decide) (by simp) (by decide) rfl d13_75 rfl ?_
  intro T114 h114 X114 e114 W114 A114
  have N114 := Fr.snoc X114 N113 n_b101
  refine Go.dup (pc' := 77) C X114 d13_76 rfl rfl ?_
  refine Go.bipush (z := (13 : Int32)) (pc' := 79) C X114 d13_77 rfl rfl ?_
  refine Go.bipush (z := (114 : Int32)) (pc' := 81) C X114 d13_79 rfl rfl ?_
  refine Go.stC (i := 13) (x' := (114 : Int32)) (vs' := [(.int (100 : Int32)), (.int (105 : Int32)), (.int (115 : Int32)), (.int (116 : Int32)), (.int (114 : Int32)), (.int (105 : Int32)), (.int (99 : Int32)), (.int (116 : Int32)), (.int (45 : Int32)), (.int (97 : Int32)), (.int (116 : Int32)), (.int (116 : Int32)), (.int (111 : Int32)), (.int (114 : Int32)), (.int (0 : Int32)), (.int (0 : Int32))]) (pc' := 82) C X114 e114 A114 (by decide) (by decide) (by simp) (by decide) rfl d13_81 rfl ?_
  intro T115 h115 X115 e115 W115 A115
  have N115 := Fr.snoc X115 N114 n_b101
  refine Go.dup (pc' := 83) C X115 d13_82 rfl rfl ?_
  refine Go.bipush (z := (14 : Int32)) (pc' := 85) C X115 d13_83 rfl rfl ?_
  refine Go.bipush (z := (110 : Int32)) (pc' := 87) C X115 d13_85 rfl rfl ?_
  refine Go.stC (i := 14) (x' := (110 : Int32)) (vs' := [(.int (100 : Int32)), (.int (105 : Int32)), (.int (115 : Int32)), (.int (116 : Int32)), (.int (114 : Int32)), (.int (105 : Int32)), (.int (99 : Int32)), (.int (116 : Int32)), (.int (45 : Int32)), (.int (97 : Int32)), (.int (116 : Int32)), (.int (116 : Int32)), (.int (111 : Int32)), (.int (114 : Int32)), (.int (110 : Int32)), (.int (0 : Int32))]) (pc' := 88) C X115 e115 A115 (by decide) (by decide) (by simp) (by decide) rfl d13_87 rfl ?_
  intro T116 h116 X116 e116 W116 A116
  have N116 := Fr.snoc X116 N115 n_b101
  refine Go.dup (pc' := 89) C X116 d13_88 rfl rfl ?_
  refine Go.bipush (z := (15 : Int32)) (pc' := 91) C X116 d13_89 rfl rfl ?_
  refine Go.bipush (z := (101 : Int32)) (pc' := 93) C X116 d13_91 rfl rfl ?_
  refine Go.stC (i := 15) (x' := (101 : Int32)) (vs' := [(.int (100 : Int32)), (.int (105 : Int32)), (.int (115 : Int32)), (.int (116 : Int32)), (.int (114 : Int32)), (.int (105 : Int32)), (.int (99 : Int32)), (.int (116 : Int32)), (.int (45 : Int32)), (.int (97 : Int32)), (.int (116 : Int32)), (.int (116 : Int32)), (.int (111 : Int32)), (.int (114 : Int32)), (.int (110 : Int32)), (.int (101 : Int32))]) (pc' := 94) C X116 e116 A116 (by decide) (by decide) (by simp) (by decide) rfl d13_93 rfl ?_
  intro T117 h117 X117 e117 W117 A117
  have N117 := Fr.snoc X117 N116 n_b101
  have K118 : Keep h0 h117 [] := ((((((((((((((((((Keep.refl h0 []).ext E101).wr W102 (Or.inr z_b101)).wr W103 (Or.inr z_b101)).wr W104 (Or.inr z_b101)).wr W105 (Or.inr z_b101)).wr W106 (Or.inr z_b101)).wr W107 (Or.inr z_b101)).wr W108 (Or.inr z_b101)).wr W109 (Or.inr z_b101)).wr W110 (Or.inr z_b101)).wr W111 (Or.inr z_b101)).wr W112 (Or.inr z_b101)).wr W113 (Or.inr z_b101)).wr W114 (Or.inr z_b101)).wr W115 (Or.inr z_b101)).wr W116 (Or.inr z_b101)).wr W117 (Or.inr z_b101))
  exact Go.retA C X117 rfl d13_94 rfl rfl rfl (by rw [e117]; exact ⟨b101, k101, rfl, N117, K118, z_b101, A117⟩) (by decide) (by decide)
theorem pf_20 : plainFor mN6 = true := plainFor_of_name (by first | (simp [plainName, overriddenIn]; done) | decide +kernel)
theorem d20_0 : decode method_4_code 0 = .ok (.bipush 16, 2) := by decide +kernel
theorem d20_2 : decode method_4_code 2 = .ok (.newarray .char, 2) := by decide +kernel
theorem d20_4 : decode method_4_code 4 = .ok (.dup, 1) := by decide +kernel
theorem d20_5 : decode method_4_code 5 = .ok (.iconst 0, 1) := by decide +kernel
theorem d20_6 : decode method_4_code 6 = .ok (.bipush 108, 2) := by decide +kernel
theorem d20_8 : decode method_4_code 8 = .ok (.castore, 1) := by decide +kernel
theorem d20_9 : decode method_4_code 9 = .ok (.dup, 1) := by decide +kernel
theorem d20_10 : decode method_4_code 10 = .ok (.iconst 1, 1) := by decide +kernel
theorem d20_11 : decode method_4_code 11 = .ok (.bipush 97, 2) := by decide +kernel
theorem d20_13 : decode method_4_code 13 = .ok (.castore, 1) := by decide +kernel
theorem d20_14 : decode method_4_code 14 = .ok (.dup, 1) := by decide +kernel
theorem d20_15 : decode method_4_code 15 = .ok (.iconst 2, 1) := by decide +kernel
theorem d20_16 : decode method_4_code 16 = .ok (.bipush 119, 2) := by decide +kernel
theorem d20_18 : decode method_4_code 18 = .ok (.castore, 1) := by decide +kernel
theorem d20_19 : decode method_4_code 19 = .ok (.dup, 1) := by decide +kernel
theorem d20_20 : decode method_4_code 20 = .ok (.iconst 3, 1) := by decide +kernel
theorem d20_21 : decode method_4_code 21 = .ok (.bipush 45, 2) := by decide +kernel
theorem d20_23 : decode method_4_code 23 = .ok (.castore, 1) := by decide +kernel
theorem d20_24 : decode method_4_code 24 = .ok (.dup, 1) := by decide +kernel
theorem d20_25 : decode method_4_code 25 = .ok (.iconst 4, 1) := by decide +kernel
theorem d20_26 : decode method_4_code 26 = .ok (.bipush 101, 2) := by decide +kernel
theorem d20_28 : decode method_4_code 28 = .ok (.castore, 1) := by decide +kernel
theorem d20_29 : decode method_4_code 29 = .ok (.dup, 1) := by decide +kernel
theorem d20_30 : decode method_4_code 30 = .ok (.iconst 5, 1) := by decide +kernel
theorem d20_31 : decode method_4_code 31 = .ok (.bipush 110, 2) := by decide +kernel
theorem d20_33 : decode method_4_code 33 = .ok (.castore, 1) := by decide +kernel
theorem d20_34 : decode method_4_code 34 = .ok (.dup, 1) := by decide +kernel
theorem d20_35 : decode method_4_code 35 = .ok (.bipush 6, 2) := by decide +kernel
theorem d20_37 : decode method_4_code 37 = .ok (.bipush 102, 2) := by decide +kernel
theorem d20_39 : decode method_4_code 39 = .ok (.castore, 1) := by decide +kernel
theorem d20_40 : decode method_4_code 40 = .ok (.dup, 1) := by decide +kernel
theorem d20_41 : decode method_4_code 41 = .ok (.bipush 7, 2) := by decide +kernel
theorem d20_43 : decode method_4_code 43 = .ok (.bipush 111, 2) := by decide +kernel
theorem d20_45 : decode method_4_code 45 = .ok (.castore, 1) := by decide +kernel
theorem d20_46 : decode method_4_code 46 = .ok (.dup, 1) := by decide +kernel
theorem d20_47 : decode method_4_code 47 = .ok (.bipush 8, 2) := by decide +kernel
theorem d20_49 : decode method_4_code 49 = .ok (.bipush 114, 2) := by decide +kernel
theorem d20_51 : decode method_4_code 51 = .ok (.castore, 1) := by decide +kernel
theorem d20_52 : decode method_4_code 52 = .ok (.dup, 1) := by decide +kernel
theorem d20_53 : decode method_4_code 53 = .ok (.bipush 9, 2) := by decide +kernel
theorem d20_55 : decode method_4_code 55 = .ok (.bipush 99, 2) := by decide +kernel
theorem d20_57 : decode method_4_code 57 = .ok (.castore, 1) := by decide +kernel
theorem d20_58 : decode method_4_code 58 = .ok (.dup, 1) := by decide +kernel
theorem d20_59 : decode method_4_code 59 = .ok (.bipush 10, 2) := by decide +kernel
theorem d20_61 : decode method_4_code 61 = .ok (.bipush 101, 2) := by decide +kernel
theorem d20_63 : decode method_4_code 63 = .ok (.castore, 1) := by decide +kernel
theorem d20_64 : decode method_4_code 64 = .ok (.dup, 1) := by decide +kernel
theorem d20_65 : decode method_4_code 65 = .ok (.bipush 11, 2) := by decide +kernel
theorem d20_67 : decode method_4_code 67 = .ok (.bipush 109, 2) := by decide +kernel
theorem d20_69 : decode method_4_code 69 = .ok (.castore, 1) := by decide +kernel
theorem d20_70 : decode method_4_code 70 = .ok (.dup, 1) := by decide +kernel
theorem d20_71 : decode method_4_code 71 = .ok (.bipush 12, 2) := by decide +kernel
theorem d20_73 : decode method_4_code 73 = .ok (.bipush 101, 2) := by decide +kernel
theorem d20_75 : decode method_4_code 75 = .ok (.castore, 1) := by decide +kernel
theorem d20_76 : decode method_4_code 76 = .ok (.dup, 1) := by decide +kernel
theorem d20_77 : decode method_4_code 77 = .ok (.bipush 13, 2) := by decide +kernel
theorem d20_79 : decode method_4_code 79 = .ok (.bipush 110, 2) := by decide +kernel
theorem d20_81 : decode method_4_code 81 = .ok (.castore, 1) := by decide +kernel
theorem d20_82 : decode method_4_code 82 = .ok (.dup, 1) := by decide +kernel
theorem d20_83 : decode method_4_code 83 = .ok (.bipush 14, 2) := by decide +kernel
theorem d20_85 : decode method_4_code 85 = .ok (.bipush 116, 2) := by decide +kernel
theorem d20_87 : decode method_4_code 87 = .ok (.castore, 1) := by decide +kernel
theorem d20_88 : decode method_4_code 88 = .ok (.dup, 1) := by decide +kernel
theorem d20_89 : decode method_4_code 89 = .ok (.bipush 15, 2) := by decide +kernel
theorem d20_91 : decode method_4_code 91 = .ok (.iload_n 0, 1) := by decide +kernel
theorem d20_92 : decode method_4_code 92 = .ok (.castore, 1) := by decide +kernel
theorem d20_93 : decode method_4_code 93 = .ok (.areturn, 1) := by decide +kernel
def Q_ar_leLonger (Z : State) (y0 : Int32) (h0 : Heap) (rv : Option Value) (h : Heap) (L : List Loc) : Prop := ∃ a : Addr, ∃ ka : ClassId, rv = some (.ref a) ∧ Fr Z.heap.size L ∧ Keep h0 h [] ∧ h0.size ≤ a ∧ AL Z h a ka .char (ch16 (leL ++ [(y0 &&& (65535 : Int32))]))
theorem rm_ar_leLonger (l : Launch) (Z : State) (a0 : Array Value) (hw : ∀ d ∈ tables_1, d.before a0 Z = true) (y0 : Int32) (h0 : Heap) (O0 : Ext Z.heap h0) :
    Met1 l Z mN6 method_4_code 1 (some (.array .char)) ({ frames := 0, cells := 1, slots := 16, locals := 0 } : Room) #[(.int (y0 &&& (65535 : Int32)))] h0 (Q_ar_leLonger Z y0 h0) := by
  refine Met1.of_body (Ls := #[.val (.int (y0 &&& (65535 : Int32)))]) pf_20 (fun m => by first | (simp [entryFrame, mkF, argsToLocals, Value.category]; done) | rfl) ?_
  intro p e s m below meth c T0 C X0 e0
  have N0 : Fr Z.heap.size [] := Fr.nil _
  refine Go.bipush (z := (16 : Int32)) (pc' := 2) C X0 d20_0 rfl rfl ?_
  refine Go.newP (aty := .char) (cap := 16) (vs := [(.int (0 : Int32)), (.int (0 : Int32)), (.int (0 : Int32)), (.int (0 : Int32)), (.int (0 : Int32)), (.int (0 : Int32)), (.int (0 : Int32)), (.int (0 : Int32)), (.int (0 : Int32)), (.int (0 : Int32)), (.int (0 : Int32)), (.int (0 : Int32)), (.int (0 : Int32)), (.int (0 : Int32)), (.int (0 : Int32)), (.int (0 : Int32))]) (ad := "[C") (pc' := 4) C X0 (by decide) (tw hw 8 rfl) e0 (by decide) (by decide) (by decide) (by decide) (by decide) rfl d20_2 rfl ?_
  intro T101 h101 b101 k101 X101 e101 g101 E101 A101 Ea101
  have n_b101 : Z.heap.size ≤ b101 := Nat.le_trans O0.1 (Nat.le_of_eq g101.symm)
  have z_b101 : h0.size ≤ b101 := Nat.le_trans (Nat.le_refl _) (Nat.le_of_eq g101.symm)
  have A101 : AL Z h101 b101 k101 .char [(.int (0 : Int32)), (.int (0 : Int32)), (.int (0 : Int32)), (.int (0 : Int32)), (.int (0 : Int32)), (.int (0 : Int32)), (.int (0 : Int32)), (.int (0 : Int32)), (.int (0 : Int32)), (.int (0 : Int32)), (.int (0 : Int32)), (.int (0 : Int32)), (.int (0 : Int32)), (.int (0 : Int32)), (.int (0 : Int32)), (.int (0 : Int32))] := A101
  refine Go.dup (pc' := 5) C X101 d20_4 rfl rfl ?_
  refine Go.iconst (z := (0 : Int32)) (pc' := 6) C X101 d20_5 rfl rfl ?_
  refine Go.bipush (z := (108 : Int32)) (pc' := 8) C X101 d20_6 rfl rfl ?_
  refine Go.stC (i := 0) (x' := (108 : Int32)) (vs' := [(.int (108 : Int32)), (.int (0 : Int32)), (.int (0 : Int32)), (.int (0 : Int32)), (.int (0 : Int32)), (.int (0 : Int32)), (.int (0 : Int32)), (.int (0 : Int32)), (.int (0 : Int32)), (.int (0 : Int32)), (.int (0 : Int32)), (.int (0 : Int32)), (.int (0 : Int32)), (.int (0 : Int32)), (.int (0 : Int32)), (.int (0 : Int32))]) (pc' := 9) C X101 e101 A101 (by decide) (by decide) (by simp) (by decide) rfl d20_8 rfl ?_
  intro T102 h102 X102 e102 W102 A102
  have N102 := Fr.snoc X102 N0 n_b101
  refine Go.dup (pc' := 10) C X102 d20_9 rfl rfl ?_
  refine Go.iconst (z := (1 : Int32)) (pc' := 11) C X102 d20_10 rfl rfl ?_
  refine Go.bipush (z := (97 : Int32)) (pc' := 13) C X102 d20_11 rfl rfl ?_
  refine Go.stC (i := 1) (x' := (97 : Int32)) (vs' := [(.int (108 : Int32)), (.int (97 : Int32)), (.int (0 : Int32)), (.int (0 : Int32)), (.int (0 : Int32)), (.int (0 : Int32)), (.int (0 : Int32)), (.int (0 : Int32)), (.int (0 : Int32)), (.int (0 : Int32)), (.int (0 : Int32)), (.int (0 : Int32)), (.int (0 : Int32)), (.int (0 : Int32)), (.int (0 : Int32)), (.int (0 : Int32))]) (pc' := 14) C X102 e102 A102 (by decide) (by decide) (by simp) (by decide) rfl d20_13 rfl ?_
  intro T103 h103 X103 e103 W103 A103
  have N103 := Fr.snoc X103 N102 n_b101
  refine Go.dup (pc' := 15) C X103 d20_14 rfl rfl ?_
  refine Go.iconst (z := (2 : Int32)) (pc' := 16) C X103 d20_15 rfl rfl ?_
  refine Go.bipush (z := (119 : Int32)) (pc' := 18) C X103 d20_16 rfl rfl ?_
  refine Go.stC (i := 2) (x' := (119 : Int32)) (vs' := [(.int (108 : Int32)), (.int (97 : Int32)), (.int (119 : Int32)), (.int (0 : Int32)), (.int (0 : Int32)), (.int (0 : Int32)), (.int (0 : Int32)), (.int (0 : Int32)), (.int (0 : Int32)), (.int (0 : Int32)), (.int (0 : Int32)), (.int (0 : Int32)), (.int (0 : Int32)), (.int (0 : Int32)), (.int (0 : Int32)), (.int (0 : Int32))]) (pc' := 19) C X103 e103 A103 (by decide) (by decide) (by simp) (by decide) rfl d20_18 rfl ?_
  intro T104 h104 X104 e104 W104 A104
  have N104 := Fr.snoc X104 N103 n_b101
  refine Go.dup (pc' := 20) C X104 d20_19 rfl rfl ?_
  refine Go.iconst (z := (3 : Int32)) (pc' := 21) C X104 d20_20 rfl rfl ?_
  refine Go.bipush (z := (45 : Int32)) (pc' := 23) C X104 d20_21 rfl rfl ?_
  refine Go.stC (i := 3) (x' := (45 : Int32)) (vs' := [(.int (108 : Int32)), (.int (97 : Int32)), (.int (119 : Int32)), (.int (45 : Int32)), (.int (0 : Int32)), (.int (0 : Int32)), (.int (0 : Int32)), (.int (0 : Int32)), (.int (0 : Int32)), (.int (0 : Int32)), (.int (0 : Int32)), (.int (0 : Int32)), (.int (0 : Int32)), (.int (0 : Int32)), (.int (0 : Int32)), (.int (0 : Int32))]) (pc' := 24) C X104 e104 A104 (by decide) (by decide) (by simp) (by decide) rfl d20_23 rfl ?_
  intro T105 h105 X105 e105 W105 A105
  have N105 := Fr.snoc X105 N104 n_b101
  refine Go.dup (pc' := 25) C X105 d20_24 rfl rfl ?_
  refine Go.iconst (z := (4 : Int32)) (pc' := 26) C X105 d20_25 rfl rfl ?_
  refine Go.bipush (z := (101 : Int32)) (pc' := 28) C X105 d20_26 rfl rfl ?_
  refine Go.stC (i := 4) (x' := (101 : Int32)) (vs' := [(.int (108 : Int32)), (.int (97 : Int32)), (.int (119 : Int32)), (.int (45 : Int32)), (.int (101 : Int32)), (.int (0 : Int32)), (.int (0 : Int32)), (.int (0 : Int32)), (.int (0 : Int32)), (.int (0 : Int32)), (.int (0 : Int32)), (.int (0 : Int32)), (.int (0 : Int32)), (.int (0 : Int32)), (.int (0 : Int32)), (.int (0 : Int32))]) (pc' := 29) C X105 e105 A105 (by decide) (by decide) (by simp) (by decide) rfl d20_28 rfl ?_
  intro T106 h106 X106 e106 W106 A106
  have N106 := Fr.snoc X106 N105 n_b101
  refine Go.dup (pc' := 30) C X106 d20_29 rfl rfl ?_
  refine Go.iconst (z := (5 : Int32)) (pc' := 31) C X106 d20_30 rfl rfl ?_
  refine Go.bipush (z := (110 : Int32)) (pc' := 33) C X106 d20_31 rfl rfl ?_
  refine Go.stC (i := 5) (x' := (110 : Int32)) (vs' := [(.int (108 : Int32)), (.int (97 : Int32)), (.int (119 : Int32)), (.int (45 : Int32)), (.int (101 : Int32)), (.int (110 : Int32)), (.int (0 : Int32)), (.int (0 : Int32)), (.int (0 : Int32)), (.int (0 : Int32)), (.int (0 : Int32)), (.int (0 : Int32)), (.int (0 : Int32)), (.int (0 : Int32)), (.int (0 : Int32)), (.int (0 : Int32))]) (pc' := 34) C X106 e106 A106 (by decide) (by decide) (by simp) (by decide) rfl d20_33 rfl ?_
  intro T107 h107 X107 e107 W107 A107
  have N107 := Fr.snoc X107 N106 n_b101
  refine Go.dup (pc' := 35) C X107 d20_34 rfl rfl ?_
  refine Go.bipush (z := (6 : Int32)) (pc' := 37) C X107 d20_35 rfl rfl ?_
  refine Go.bipush (z := (102 : Int32)) (pc' := 39) C X107 d20_37 rfl rfl ?_
  refine Go.stC (i := 6) (x' := (102 : Int32)) (vs' := [(.int (108 : Int32)), (.int (97 : Int32)), (.int (119 : Int32)), (.int (45 : Int32)), (.int (101 : Int32)), (.int (110 : Int32)), (.int (102 : Int32)), (.int (0 : Int32)), (.int (0 : Int32)), (.int (0 : Int32)), (.int (0 : Int32)), (.int (0 : Int32)), (.int (0 : Int32)), (.int (0 : Int32)), (.int (0 : Int32)), (.int (0 : Int32))]) (pc' := 40) C X107 e107 A107 (by decide) (by decide) (by simp) (by decide) rfl d20_39 rfl ?_
  intro T108 h108 X108 e108 W108 A108
  have N108 := Fr.snoc X108 N107 n_b101
  refine Go.dup (pc' := 41) C X108 d20_40 rfl rfl ?_
  refine Go.bipush (z := (7 : Int32)) (pc' := 43) C X108 d20_41 rfl rfl ?_
  refine Go.bipush (z := (111 : Int32)) (pc' := 45) C X108 d20_43 rfl rfl ?_
  refine Go.stC (i := 7) (x' := (111 : Int32)) (vs' := [(.int (108 : Int32)), (.int (97 : Int32)), (.int (119 : Int32)), (.int (45 : Int32)), (.int (101 : Int32)), (.int (110 : Int32)), (.int (102 : Int32)), (.int (111 : Int32)), (.int (0 : Int32)), (.int (0 : Int32)), (.int (0 : Int32)), (.int (0 : Int32)), (.int (0 : Int32)), (.int (0 : Int32)), (.int (0 : Int32)), (.int (0 : Int32))]) (pc' := 46) C X108 e108 A108 (by decide) (by decide) (by simp) (by decide) rfl d20_45 rfl ?_
  intro T109 h109 X109 e109 W109 A109
  have N109 := Fr.snoc X109 N108 n_b101
  refine Go.dup (pc' := 47) C X109 d20_46 rfl rfl ?_
  refine Go.bipush (z := (8 : Int32)) (pc' := 49) C X109 d20_47 rfl rfl ?_
  refine Go.bipush (z := (114 : Int32)) (pc' := 51) C X109 d20_49 rfl rfl ?_
  refine Go.stC (i := 8) (x' := (114 : Int32)) (vs' := [(.int (108 : Int32)), (.int (97 : Int32)), (.int (119 : Int32)), (.int (45 : Int32)), (.int (101 : Int32)), (.int (110 : Int32)), (.int (102 : Int32)), (.int (111 : Int32)), (.int (114 : Int32)), (.int (0 : Int32)), (.int (0 : Int32)), (.int (0 : Int32)), (.int (0 : Int32)), (.int (0 : Int32)), (.int (0 : Int32)), (.int (0 : Int32))]) (pc' := 52) C X109 e109 A109 (by decide) (by decide) (by simp) (by decide) rfl d20_51 rfl ?_
  intro T110 h110 X110 e110 W110 A110
  have N110 := Fr.snoc X110 N109 n_b101
  refine Go.dup (pc' := 53) C X110 d20_52 rfl rfl ?_
  refine Go.bipush (z := (9 : Int32)) (pc' := 55) C X110 d20_53 rfl rfl ?_
  refine Go.bipush (z := (99 : Int32)) (pc' := 57) C X110 d20_55 rfl rfl ?_
  refine Go.stC (i := 9) (x' := (99 : Int32)) (vs' := [(.int (108 : Int32)), (.int (97 : Int32)), (.int (119 : Int32)), (.int (45 : Int32)), (.int (101 : Int32)), (.int (110 : Int32)), (.int (102 : Int32)), (.int (111 : Int32)), (.int (114 : Int32)), (.int (99 : Int32)), (.int (0 : Int32)), (.int (0 : Int32)), (.int (0 : Int32)), (.int (0 : Int32)), (.int (0 : Int32)), (.int (0 : Int32))]) (pc' := 58) C X110 e110 A110 (by decide) (by decide) (by simp) (by decide) rfl d20_57 rfl ?_
  intro T111 h111 X111 e111 W111 A111
  have N111 := Fr.snoc X111 N110 n_b101
  refine Go.dup (pc' := 59) C X111 d20_58 rfl rfl ?_
  refine Go.bipush (z := (10 : Int32)) (pc' := 61) C X111 d20_59 rfl rfl ?_
  refine Go.bipush (z := (101 : Int32)) (pc' := 63) C X111 d20_61 rfl rfl ?_
  refine Go.stC (i := 10) (x' := (101 : Int32)) (vs' := [(.int (108 : Int32)), (.int (97 : Int32)), (.int (119 : Int32)), (.int (45 : Int32)), (.int (101 : Int32)), (.int (110 : Int32)), (.int (102 : Int32)), (.int (111 : Int32)), (.int (114 : Int32)), (.int (99 : Int32)), (.int (101 : Int32)), (.int (0 : Int32)), (.int (0 : Int32)), (.int (0 : Int32)), (.int (0 : Int32)), (.int (0 : Int32))]) (pc' := 64) C X111 e111 A111 (by decide) (by decide) (by simp) (by decide) rfl d20_63 rfl ?_
  intro T112 h112 X112 e112 W112 A112
  have N112 := Fr.snoc X112 N111 n_b101
  refine Go.dup (pc' := 65) C X112 d20_64 rfl rfl ?_
  refine Go.bipush (z := (11 : Int32)) (pc' := 67) C X112 d20_65 rfl rfl ?_
  refine Go.bipush (z := (109 : Int32)) (pc' := 69) C X112 d20_67 rfl rfl ?_
  refine Go.stC (i := 11) (x' := (109 : Int32)) (vs' := [(.int (108 : Int32)), (.int (97 : Int32)), (.int (119 : Int32)), (.int (45 : Int32)), (.int (101 : Int32)), (.int (110 : Int32)), (.int (102 : Int32)), (.int (111 : Int32)), (.int (114 : Int32)), (.int (99 : Int32)), (.int (101 : Int32)), (.int (109 : Int32)), (.int (0 : Int32)), (.int (0 : Int32)), (.int (0 : Int32)), (.int (0 : Int32))]) (pc' := 70) C X112 e112 A112 (by decide) (by decide) (by simp) (by decide) rfl d20_69 rfl ?_
  intro T113 h113 X113 e113 W113 A113
  have N113 := Fr.snoc X113 N112 n_b101
  refine Go.dup (pc' := 71) C X113 d20_70 rfl rfl ?_
  refine Go.bipush (z := (12 : Int32)) (pc' := 73) C X113 d20_71 rfl rfl ?_
  refine Go.bipush (z := (101 : Int32)) (pc' := 75) C X113 d20_73 rfl rfl ?_
  refine Go.stC (i := 12) (x' := (101 : Int32)) (vs' := [(.int (108 : Int32)), (.int (97 : Int32)), (.int (119 : Int32)), (.int (45 : Int32)), (.int (101 : Int32)), (.int (110 : Int32)), (.int (102 : Int32)), (.int (111 : Int32)), (.int (114 : Int32)), (.int (99 : Int32)), (.int (101 : Int32)), (.int (109 : Int32)), (.int (101 : Int32)), (.int (0 : Int32)), (.int (0 : Int32)), (.int (0 : Int32))]) (pc' := 76) C X113 e113 A113 (by decide) (by decide) (by simp) (by decide) rfl d20_75 rfl ?_
  intro T114 h114 X114 e114 W114 A114
  have N114 := Fr.snoc X114 N113 n_b101
  refine Go.dup (pc' := 77) C X114 d20_76 rfl rfl ?_
  refine Go.bipush (z := (13 : Int32)) (pc' := 79) C X114 d20_77 rfl rfl ?_
  refine Go.bipush (z := (110 : Int32)) (pc' := 81) C X114 d20_79 rfl rfl ?_
  refine Go.stC (i := 13) (x' := (110 : Int32)) (vs' := [(.int (108 : Int32)), (.int (97 : Int32)), (.int (119 : Int32)), (.int (45 : Int32)), (.int (101 : Int32)), (.int (110 : Int32)), (.int (102 : Int32)), (.int (111 : Int32)), (.int (114 : Int32)), (.int (99 : Int32)), (.int (101 : Int32)), (.int (109 : Int32)), (.int (101 : Int32)), (.int (110 : Int32)), (.int (0 : Int32)), (.int (0 : Int32))]) (pc' := 82) C X114 e114 A114 (by decide) (by decide) (by simp) (by decide) rfl d20_81 rfl ?_
  intro T115 h115 X115 e115 W115 A115
  have N115 := Fr.snoc X115 N114 n_b101
  refine Go.dup (pc' := 83) C X115 d20_82 rfl rfl ?_
  refine Go.bipush (z := (14 : Int32)) (pc' := 85) C X115 d20_83 rfl rfl ?_
  refine Go.bipush (z := (116 : Int32)) (pc' := 87) C X115 d20_85 rfl rfl ?_
  refine Go.stC (i := 14) (x' := (116 : Int32)) (vs' := [(.int (108 : Int32)), (.int (97 : Int32)), (.int (119 : Int32)), (.int (45 : Int32)), (.int (101 : Int32)), (.int (110 : Int32)), (.int (102 : Int32)), (.int (111 : Int32)), (.int (114 : Int32)), (.int (99 : Int32)), (.int (101 : Int32)), (.int (109 : Int32)), (.int (101 : Int32)), (.int (110 : Int32)), (.int (116 : Int32)), (.int (0 : Int32))]) (pc' := 88) C X115 e115 A115 (by decide) (by decide) (by simp) (by decide) rfl d20_87 rfl ?_
  intro T116 h116 X116 e116 W116 A116
  have N116 := Fr.snoc X116 N115 n_b101
  refine Go.dup (pc' := 89) C X116 d20_88 rfl rfl ?_
  refine Go.bipush (z := (15 : Int32)) (pc' := 91) C X116 d20_89 rfl rfl ?_
  refine Go.iloadN (pc' := 92) C X116 d20_91 rfl rfl ?_
  refine Go.stC (i := 15) (x' := (y0 &&& (65535 : Int32))) (vs' := [(.int (108 : Int32)), (.int (97 : Int32)), (.int (119 : Int32)), (.int (45 : Int32)), (.int (101 : Int32)), (.int (110 : Int32)), (.int (102 : Int32)), (.int (111 : Int32)), (.int (114 : Int32)), (.int (99 : Int32)), (.int (101 : Int32)), (.int (109 : Int32)), (.int (101 : Int32)), (.int (110 : Int32)), (.int (116 : Int32)), (.int (y0 &&& (65535 : Int32)))]) (pc' := 93) C X116 e116 A116 (by decide) (by decide) (by simp) (n16 _) rfl d20_92 rfl ?_
  intro T117 h117 X117 e117 W117 A117
  have N117 := Fr.snoc X117 N116 n_b101
  have K118 : Keep h0 h117 [] := ((((((((((((((((((Keep.refl h0 []).ext E101).wr W102 (Or.inr z_b101)).wr W103 (Or.inr z_b101)).wr W104 (Or.inr z_b101)).wr W105 (Or.inr z_b101)).wr W106 (Or.inr z_b101)).wr W107 (Or.inr z_b101)).wr W108 (Or.inr z_b101)).wr W109 (Or.inr z_b101)).wr W110 (Or.inr z_b101)).wr W111 (Or.inr z_b101)).wr W112 (Or.inr z_b101)).wr W113 (Or.inr z_b101)).wr W114 (Or.inr z_b101)).wr W115 (Or.inr z_b101)).wr W116 (Or.inr z_b101)).wr W117 (Or.inr z_b101))
  exact Go.retA C X117 rfl d20_93 rfl rfl rfl (by rw [e117]; exact ⟨b101, k101, rfl, N117, K118, z_b101, A117⟩) (by decide) (by decide)
theorem pf_19 : plainFor mN3 = true := plainFor_of_name (by first | (simp [plainName, overriddenIn]; done) | decide +kernel)
theorem d19_0 : decode method_7_code 0 = .ok (.bipush 18, 2) := by decide +kernel
theorem d19_2 : decode method_7_code 2 = .ok (.newarray .char, 2) := by decide +kernel
theorem d19_4 : decode method_7_code 4 = .ok (.dup, 1) := by decide +kernel
theorem d19_5 : decode method_7_code 5 = .ok (.iconst 0, 1) := by decide +kernel
theorem d19_6 : decode method_7_code 6 = .ok (.bipush 100, 2) := by decide +kernel
theorem d19_8 : decode method_7_code 8 = .ok (.castore, 1) := by decide +kernel
theorem d19_9 : decode method_7_code 9 = .ok (.dup, 1) := by decide +kernel
theorem d19_10 : decode method_7_code 10 = .ok (.iconst 1, 1) := by decide +kernel
theorem d19_11 : decode method_7_code 11 = .ok (.bipush 105, 2) := by decide +kernel
theorem d19_13 : decode method_7_code 13 = .ok (.castore, 1) := by decide +kernel
theorem d19_14 : decode method_7_code 14 = .ok (.dup, 1) := by decide +kernel
theorem d19_15 : decode method_7_code 15 = .ok (.iconst 2, 1) := by decide +kernel
theorem d19_16 : decode method_7_code 16 = .ok (.bipush 115, 2) := by decide +kernel
theorem d19_18 : decode method_7_code 18 = .ok (.castore, 1) := by decide +kernel
theorem d19_19 : decode method_7_code 19 = .ok (.dup, 1) := by decide +kernel
theorem d19_20 : decode method_7_code 20 = .ok (.iconst 3, 1) := by decide +kernel
theorem d19_21 : decode method_7_code 21 = .ok (.bipush 116, 2) := by decide +kernel
theorem d19_23 : decode method_7_code 23 = .ok (.castore, 1) := by decide +kernel
theorem d19_24 : decode method_7_code 24 = .ok (.dup, 1) := by decide +kernel
theorem d19_25 : decode method_7_code 25 = .ok (.iconst 4, 1) := by decide +kernel
theorem d19_26 : decode method_7_code 26 = .ok (.bipush 114, 2) := by decide +kernel
theorem d19_28 : decode method_7_code 28 = .ok (.castore, 1) := by decide +kernel
theorem d19_29 : decode method_7_code 29 = .ok (.dup, 1) := by decide +kernel
theorem d19_30 : decode method_7_code 30 = .ok (.iconst 5, 1) := by decide +kernel
theorem d19_31 : decode method_7_code 31 = .ok (.bipush 105, 2) := by decide +kernel
theorem d19_33 : decode method_7_code 33 = .ok (.castore, 1) := by decide +kernel
theorem d19_34 : decode method_7_code 34 = .ok (.dup, 1) := by decide +kernel
theorem d19_35 : decode method_7_code 35 = .ok (.bipush 6, 2) := by decide +kernel
theorem d19_37 : decode method_7_code 37 = .ok (.bipush 99, 2) := by decide +kernel
theorem d19_39 : decode method_7_code 39 = .ok (.castore, 1) := by decide +kernel
theorem d19_40 : decode method_7_code 40 = .ok (.dup, 1) := by decide +kernel
theorem d19_41 : decode method_7_code 41 = .ok (.bipush 7, 2) := by decide +kernel
theorem d19_43 : decode method_7_code 43 = .ok (.bipush 116, 2) := by decide +kernel
theorem d19_45 : decode method_7_code 45 = .ok (.castore, 1) := by decide +kernel
theorem d19_46 : decode method_7_code 46 = .ok (.dup, 1) := by decide +kernel
theorem d19_47 : decode method_7_code 47 = .ok (.bipush 8, 2) := by decide +kernel
theorem d19_49 : decode method_7_code 49 = .ok (.bipush 45, 2) := by decide +kernel
theorem d19_51 : decode method_7_code 51 = .ok (.castore, 1) := by decide +kernel
theorem d19_52 : decode method_7_code 52 = .ok (.dup, 1) := by decide +kernel
theorem d19_53 : decode method_7_code 53 = .ok (.bipush 9, 2) := by decide +kernel
theorem d19_55 : decode method_7_code 55 = .ok (.bipush 97, 2) := by decide +kernel
theorem d19_57 : decode method_7_code 57 = .ok (.castore, 1) := by decide +kernel
theorem d19_58 : decode method_7_code 58 = .ok (.dup, 1) := by decide +kernel
theorem d19_59 : decode method_7_code 59 = .ok (.bipush 10, 2) := by decide +kernel
theorem d19_61 : decode method_7_code 61 = .ok (.bipush 116, 2) := by decide +kernel
theorem d19_63 : decode method_7_code 63 = .ok (.castore, 1) := by decide +kernel
theorem d19_64 : decode method_7_code 64 = .ok (.dup, 1) := by decide +kernel
theorem d19_65 : decode method_7_code 65 = .ok (.bipush 11, 2) := by decide +kernel
theorem d19_67 : decode method_7_code 67 = .ok (.bipush 116, 2) := by decide +kernel
theorem d19_69 : decode method_7_code 69 = .ok (.castore, 1) := by decide +kernel
theorem d19_70 : decode method_7_code 70 = .ok (.dup, 1) := by decide +kernel
theorem d19_71 : decode method_7_code 71 = .ok (.bipush 12, 2) := by decide +kernel
theorem d19_73 : decode method_7_code 73 = .ok (.bipush 111, 2) := by decide +kernel
theorem d19_75 : decode method_7_code 75 = .ok (.castore, 1) := by decide +kernel
theorem d19_76 : decode method_7_code 76 = .ok (.dup, 1) := by decide +kernel
theorem d19_77 : decode method_7_code 77 = .ok (.bipush 13, 2) := by decide +kernel
theorem d19_79 : decode method_7_code 79 = .ok (.bipush 114, 2) := by decide +kernel
theorem d19_81 : decode method_7_code 81 = .ok (.castore, 1) := by decide +kernel
theorem d19_82 : decode method_7_code 82 = .ok (.dup, 1) := by decide +kernel
theorem d19_83 : decode method_7_code 83 = .ok (.bipush 14, 2) := by decide +kernel
theorem d19_85 : decode method_7_code 85 = .ok (.bipush 110, 2) := by decide +kernel
theorem d19_87 : decode method_7_code 87 = .ok (.castore, 1) := by decide +kernel
theorem d19_88 : decode method_7_code 88 = .ok (.dup, 1) := by decide +kernel
theorem d19_89 : decode method_7_code 89 = .ok (.bipush 15, 2) := by decide +kernel
theorem d19_91 : decode method_7_code 91 = .ok (.bipush 101, 2) := by decide +kernel
theorem d19_93 : decode method_7_code 93 = .ok (.castore, 1) := by decide +kernel
theorem d19_94 : decode method_7_code 94 = .ok (.dup, 1) := by decide +kernel
theorem d19_95 : decode method_7_code 95 = .ok (.bipush 16, 2) := by decide +kernel
theorem d19_97 : decode method_7_code 97 = .ok (.bipush 121, 2) := by decide +kernel
theorem d19_99 : decode method_7_code 99 = .ok (.castore, 1) := by decide +kernel
theorem d19_100 : decode method_7_code 100 = .ok (.dup, 1) := by decide +kernel
theorem d19_101 : decode method_7_code 101 = .ok (.bipush 17, 2) := by decide +kernel
theorem d19_103 : decode method_7_code 103 = .ok (.iload_n 0, 1) := by decide +kernel
theorem d19_104 : decode method_7_code 104 = .ok (.castore, 1) := by decide +kernel
theorem d19_105 : decode method_7_code 105 = .ok (.areturn, 1) := by decide +kernel
def Q_ar_daLonger (Z : State) (y0 : Int32) (h0 : Heap) (rv : Option Value) (h : Heap) (L : List Loc) : Prop := ∃ a : Addr, ∃ ka : ClassId, rv = some (.ref a) ∧ Fr Z.heap.size L ∧ Keep h0 h [] ∧ h0.size ≤ a ∧ AL Z h a ka .char (ch16 (daL ++ [(y0 &&& (65535 : Int32))]))
theorem rm_ar_daLonger (l : Launch) (Z : State) (a0 : Array Value) (hw : ∀ d ∈ tables_1, d.before a0 Z = true) (y0 : Int32) (h0 : Heap) (O0 : Ext Z.heap h0) :
    Met1 l Z mN3 method_7_code 1 (some (.array .char)) ({ frames := 0, cells := 1, slots := 18, locals := 0 } : Room) #[(.int (y0 &&& (65535 : Int32)))] h0 (Q_ar_daLonger Z y0 h0) := by
  refine Met1.of_body (Ls := #[.val (.int (y0 &&& (65535 : Int32)))]) pf_19 (fun m => by first | (simp [entryFrame, mkF, argsToLocals, Value.category]; done) | rfl) ?_
  intro p e s m below meth c T0 C X0 e0
  have N0 : Fr Z.heap.size [] := Fr.nil _
  refine Go.bipush (z := (18 : Int32)) (pc' := 2) C X0 d19_0 rfl rfl ?_
  refine Go.newP (aty := .char) (cap := 18) (vs := [(.int (0 : Int32)), (.int (0 : Int32)), (.int (0 : Int32)), (.int (0 : Int32)), (.int (0 : Int32)), (.int (0 : Int32)), (.int (0 : Int32)), (.int (0 : Int32)), (.int (0 : Int32)), (.int (0 : Int32)), (.int (0 : Int32)), (.int (0 : Int32)), (.int (0 : Int32)), (.int (0 : Int32)), (.int (0 : Int32)), (.int (0 : Int32)), (.int (0 : Int32)), (.int (0 : Int32))]) (ad := "[C") (pc' := 4) C X0 (by decide) (tw hw 8 rfl) e0 (by decide) (by decide) (by decide) (by decide) (by decide) rfl d19_2 rfl ?_
  intro T101 h101 b101 k101 X101 e101 g101 E101 A101 Ea101
  have n_b101 : Z.heap.size ≤ b101 := Nat.le_trans O0.1 (Nat.le_of_eq g101.symm)
  have z_b101 : h0.size ≤ b101 := Nat.le_trans (Nat.le_refl _) (Nat.le_of_eq g101.symm)
  have A101 : AL Z h101 b101 k101 .char [(.int (0 : Int32)), (.int (0 : Int32)), (.int (0 : Int32)), (.int (0 : Int32)), (.int (0 : Int32)), (.int (0 : Int32)), (.int (0 : Int32)), (.int (0 : Int32)), (.int (0 : Int32)), (.int (0 : Int32)), (.int (0 : Int32)), (.int (0 : Int32)), (.int (0 : Int32)), (.int (0 : Int32)), (.int (0 : Int32)), (.int (0 : Int32)), (.int (0 : Int32)), (.int (0 : Int32))] := A101
  refine Go.dup (pc' := 5) C X101 d19_4 rfl rfl ?_
  refine Go.iconst (z := (0 : Int32)) (pc' := 6) C X101 d19_5 rfl rfl ?_
  refine Go.bipush (z := (100 : Int32)) (pc' := 8) C X101 d19_6 rfl rfl ?_
  refine Go.stC (i := 0) (x' := (100 : Int32)) (vs' := [(.int (100 : Int32)), (.int (0 : Int32)), (.int (0 : Int32)), (.int (0 : Int32)), (.int (0 : Int32)), (.int (0 : Int32)), (.int (0 : Int32)), (.int (0 : Int32)), (.int (0 : Int32)), (.int (0 : Int32)), (.int (0 : Int32)), (.int (0 : Int32)), (.int (0 : Int32)), (.int (0 : Int32)), (.int (0 : Int32)), (.int (0 : Int32)), (.int (0 : Int32)), (.int (0 : Int32))]) (pc' := 9) C X101 e101 A101 (by decide) (by decide) (by simp) (by decide) rfl d19_8 rfl ?_
  intro T102 h102 X102 e102 W102 A102
  have N102 := Fr.snoc X102 N0 n_b101
  refine Go.dup (pc' := 10) C X102 d19_9 rfl rfl ?_
  refine Go.iconst (z := (1 : Int32)) (pc' := 11) C X102 d19_10 rfl rfl ?_
  refine Go.bipush (z := (105 : Int32)) (pc' := 13) C X102 d19_11 rfl rfl ?_
  refine Go.stC (i := 1) (x' := (105 : Int32)) (vs' := [(.int (100 : Int32)), (.int (105 : Int32)), (.int (0 : Int32)), (.int (0 : Int32)), (.int (0 : Int32)), (.int (0 : Int32)), (.int (0 : Int32)), (.int (0 : Int32)), (.int (0 : Int32)), (.int (0 : Int32)), (.int (0 : Int32)), (.int (0 : Int32)), (.int (0 : Int32)), (.int (0 : Int32)), (.int (0 : Int32)), (.int (0 : Int32)), (.int (0 : Int32)), (.int (0 : Int32))]) (pc' := 14) C X102 e102 A102 (by decide) (by decide) (by simp) (by decide) rfl d19_13 rfl ?_
  intro T103 h103 X103 e103 W103 A103
  have N103 := Fr.snoc X103 N102 n_b101
  refine Go.dup (pc' := 15) C X103 d19_14 rfl rfl ?_
  refine Go.iconst (z := (2 : Int32)) (pc' := 16) C X103 d19_15 rfl rfl ?_
  refine Go.bipush (z := (115 : Int32)) (pc' := 18) C X103 d19_16 rfl rfl ?_
  refine Go.stC (i := 2) (x' := (115 : Int32)) (vs' := [(.int (100 : Int32)), (.int (105 : Int32)), (.int (115 : Int32)), (.int (0 : Int32)), (.int (0 : Int32)), (.int (0 : Int32)), (.int (0 : Int32)), (.int (0 : Int32)), (.int (0 : Int32)), (.int (0 : Int32)), (.int (0 : Int32)), (.int (0 : Int32)), (.int (0 : Int32)), (.int (0 : Int32)), (.int (0 : Int32)), (.int (0 : Int32)), (.int (0 : Int32)), (.int (0 : Int32))]) (pc' := 19) C X103 e103 A103 (by decide) (by decide) (by simp) (by decide) rfl d19_18 rfl ?_
  intro T104 h104 X104 e104 W104 A104
  have N104 := Fr.snoc X104 N103 n_b101
  refine Go.dup (pc' := 20) C X104 d19_19 rfl rfl ?_
  refine Go.iconst (z := (3 : Int32)) (pc' := 21) C X104 d19_20 rfl rfl ?_
  refine Go.bipush (z := (116 : Int32)) (pc' := 23) C X104 d19_21 rfl rfl ?_
  refine Go.stC (i := 3) (x' := (116 : Int32)) (vs' := [(.int (100 : Int32)), (.int (105 : Int32)), (.int (115 : Int32)), (.int (116 : Int32)), (.int (0 : Int32)), (.int (0 : Int32)), (.int (0 : Int32)), (.int (0 : Int32)), (.int (0 : Int32)), (.int (0 : Int32)), (.int (0 : Int32)), (.int (0 : Int32)), (.int (0 : Int32)), (.int (0 : Int32)), (.int (0 : Int32)), (.int (0 : Int32)), (.int (0 : Int32)), (.int (0 : Int32))]) (pc' := 24) C X104 e104 A104 (by decide) (by decide) (by simp) (by decide) rfl d19_23 rfl ?_
  intro T105 h105 X105 e105 W105 A105
  have N105 := Fr.snoc X105 N104 n_b101
  refine Go.dup (pc' := 25) C X105 d19_24 rfl rfl ?_
  refine Go.iconst (z := (4 : Int32)) (pc' := 26) C X105 d19_25 rfl rfl ?_
  refine Go.bipush (z := (114 : Int32)) (pc' := 28) C X105 d19_26 rfl rfl ?_
  refine Go.stC (i := 4) (x' := (114 : Int32)) (vs' := [(.int (100 : Int32)), (.int (105 : Int32)), (.int (115 : Int32)), (.int (116 : Int32)), (.int (114 : Int32)), (.int (0 : Int32)), (.int (0 : Int32)), (.int (0 : Int32)), (.int (0 : Int32)), (.int (0 : Int32)), (.int (0 : Int32)), (.int (0 : Int32)), (.int (0 : Int32)), (.int (0 : Int32)), (.int (0 : Int32)), (.int (0 : Int32)), (.int (0 : Int32)), (.int (0 : Int32))]) (pc' := 29) C X105 e105 A105 (by decide) (by decide) (by simp) (by decide) rfl d19_28 rfl ?_
  intro T106 h106 X106 e106 W106 A106
  have N106 := Fr.snoc X106 N105 n_b101
  refine Go.dup (pc' := 30) C X106 d19_29 rfl rfl ?_
  refine Go.iconst (z := (5 : Int32)) (pc' := 31) C X106 d19_30 rfl rfl ?_
  refine Go.bipush (z := (105 : Int32)) (pc' := 33) C X106 d19_31 rfl rfl ?_
  refine Go.stC (i := 5) (x' := (105 : Int32)) (vs' := [(.int (100 : Int32)), (.int (105 : Int32)), (.int (115 : Int32)), (.int (116 : Int32)), (.int (114 : Int32)), (.int (105 : Int32)), (.int (0 : Int32)), (.int (0 : Int32)), (.int (0 : Int32)), (.int (0 : Int32)), (.int (0 : Int32)), (.int (0 : Int32)), (.int (0 : Int32)), (.int (0 : Int32)), (.int (0 : Int32)), (.int (0 : Int32)), (.int (0 : Int32)), (.int (0 : Int32))]) (pc' := 34) C X106 e106 A106 (by decide) (by decide) (by simp) (by decide) rfl d19_33 rfl ?_
  intro T107 h107 X107 e107 W107 A107
  have N107 := Fr.snoc X107 N106 n_b101
  refine Go.dup (pc' := 35) C X107 d19_34 rfl rfl ?_
  refine Go.bipush (z := (6 : Int32)) (pc' := 37) C X107 d19_35 rfl rfl ?_
  refine Go.bipush (z := (99 : Int32)) (pc' := 39) C X107 d19_37 rfl rfl ?_
  refine Go.stC (i := 6) (x' := (99 : Int32)) (vs' := [(.int (100 : Int32)), (.int (105 : Int32)), (.int (115 : Int32)), (.int (116 : Int32)), (.int (114 : Int32)), (.int (105 : Int32)), (.int (99 : Int32)), (.int (0 : Int32)), (.int (0 : Int32)), (.int (0 : Int32)), (.int (0 : Int32)), (.int (0 : Int32)), (.int (0 : Int32)), (.int (0 : Int32)), (.int (0 : Int32)), (.int (0 : Int32)), (.int (0 : Int32)), (.int (0 : Int32))]) (pc' := 40) C X107 e107 A107 (by decide) (by decide) (by simp) (by decide) rfl d19_39 rfl ?_
  intro T108 h108 X108 e108 W108 A108
  have N108 := Fr.snoc X108 N107 n_b101
  refine Go.dup (pc' := 41) C X108 d19_40 rfl rfl ?_
  refine Go.bipush (z := (7 : Int32)) (pc' := 43) C X108 d19_41 rfl rfl ?_
  refine Go.bipush (z := (116 : Int32)) (pc' := 45) C X108 d19_43 rfl rfl ?_
  refine Go.stC (i := 7) (x' := (116 : Int32)) (vs' := [(.int (100 : Int32)), (.int (105 : Int32)), (.int (115 : Int32)), (.int (116 : Int32)), (.int (114 : Int32)), (.int (105 : Int32)), (.int (99 : Int32)), (.int (116 : Int32)), (.int (0 : Int32)), (.int (0 : Int32)), (.int (0 : Int32)), (.int (0 : Int32)), (.int (0 : Int32)), (.int (0 : Int32)), (.int (0 : Int32)), (.int (0 : Int32)), (.int (0 : Int32)), (.int (0 : Int32))]) (pc' := 46) C X108 e108 A108 (by decide) (by decide) (by simp) (by decide) rfl d19_45 rfl ?_
  intro T109 h109 X109 e109 W109 A109
  have N109 := Fr.snoc X109 N108 n_b101
  refine Go.dup (pc' := 47) C X109 d19_46 rfl rfl ?_
  refine Go.bipush (z := (8 : Int32)) (pc' := 49) C X109 d19_47 rfl rfl ?_
  refine Go.bipush (z := (45 : Int32)) (pc' := 51) C X109 d19_49 rfl rfl ?_
  refine Go.stC (i := 8) (x' := (45 : Int32)) (vs' := [(.int (100 : Int32)), (.int (105 : Int32)), (.int (115 : Int32)), (.int (116 : Int32)), (.int (114 : Int32)), (.int (105 : Int32)), (.int (99 : Int32)), (.int (116 : Int32)), (.int (45 : Int32)), (.int (0 : Int32)), (.int (0 : Int32)), (.int (0 : Int32)), (.int (0 : Int32)), (.int (0 : Int32)), (.int (0 : Int32)), (.int (0 : Int32)), (.int (0 : Int32)), (.int (0 : Int32))]) (pc' := 52) C X109 e109 A109 (by decide) (by decide) (by simp) (by decide) rfl d19_51 rfl ?_
  intro T110 h110 X110 e110 W110 A110
  have N110 := Fr.snoc X110 N109 n_b101
  refine Go.dup (pc' := 53) C X110 d19_52 rfl rfl ?_
  refine Go.bipush (z := (9 : Int32)) (pc' := 55) C X110 d19_53 rfl rfl ?_
  refine Go.bipush (z := (97 : Int32)) (pc' := 57) C X110 d19_55 rfl rfl ?_
  refine Go.stC (i := 9) (x' := (97 : Int32)) (vs' := [(.int (100 : Int32)), (.int (105 : Int32)), (.int (115 : Int32)), (.int (116 : Int32)), (.int (114 : Int32)), (.int (105 : Int32)), (.int (99 : Int32)), (.int (116 : Int32)), (.int (45 : Int32)), (.int (97 : Int32)), (.int (0 : Int32)), (.int (0 : Int32)), (.int (0 : Int32)), (.int (0 : Int32)), (.int (0 : Int32)), (.int (0 : Int32)), (.int (0 : Int32)), (.int (0 : Int32))]) (pc' := 58) C X110 e110 A110 (by decide) (by decide) (by simp) (by decide) rfl d19_57 rfl ?_
  intro T111 h111 X111 e111 W111 A111
  have N111 := Fr.snoc X111 N110 n_b101
  refine Go.dup (pc' := 59) C X111 d19_58 rfl rfl ?_
  refine Go.bipush (z := (10 : Int32)) (pc' := 61) C X111 d19_59 rfl rfl ?_
  refine Go.bipush (z := (116 : Int32)) (pc' := 63) C X111 d19_61 rfl rfl ?_
  refine Go.stC (i := 10) (x' := (116 : Int32)) (vs' := [(.int (100 : Int32)), (.int (105 : Int32)), (.int (115 : Int32)), (.int (116 : Int32)), (.int (114 : Int32)), (.int (105 : Int32)), (.int (99 : Int32)), (.int (116 : Int32)), (.int (45 : Int32)), (.int (97 : Int32)), (.int (116 : Int32)), (.int (0 : Int32)), (.int (0 : Int32)), (.int (0 : Int32)), (.int (0 : Int32)), (.int (0 : Int32)), (.int (0 : Int32)), (.int (0 : Int32))]) (pc' := 64) C X111 e111 A111 (by decide) (by decide) (by simp) (by decide) rfl d19_63 rfl ?_
  intro T112 h112 X112 e112 W112 A112
  have N112 := Fr.snoc X112 N111 n_b101
  refine Go.dup (pc' := 65) C X112 d19_64 rfl rfl ?_
  refine Go.bipush (z := (11 : Int32)) (pc' := 67) C X112 d19_65 rfl rfl ?_
  refine Go.bipush (z := (116 : Int32)) (pc' := 69) C X112 d19_67 rfl rfl ?_
  refine Go.stC (i := 11) (x' := (116 : Int32)) (vs' := [(.int (100 : Int32)), (.int (105 : Int32)), (.int (115 : Int32)), (.int (116 : Int32)), (.int (114 : Int32)), (.int (105 : Int32)), (.int (99 : Int32)), (.int (116 : Int32)), (.int (45 : Int32)), (.int (97 : Int32)), (.int (116 : Int32)), (.int (116 : Int32)), (.int (0 : Int32)), (.int (0 : Int32)), (.int (0 : Int32)), (.int (0 : Int32)), (.int (0 : Int32)), (.int (0 : Int32))]) (pc' := 70) C X112 e112 A112 (by decide) (by decide) (by simp) (by decide) rfl d19_69 rfl ?_
  intro T113 h113 X113 e113 W113 A113
  have N113 := Fr.snoc X113 N112 n_b101
  refine Go.dup (pc' := 71) C X113 d19_70 rfl rfl ?_
  refine Go.bipush (z := (12 : Int32)) (pc' := 73) C X113 d19_71 rfl rfl ?_
  refine Go.bipush (z := (111 : Int32)) (pc' := 75) C X113 d19_73 rfl rfl ?_
  refine Go.stC (i := 12) (x' := (111 : Int32)) (vs' := [(.int (100 : Int32)), (.int (105 : Int32)), (.int (115 : Int32)), (.int (116 : Int32)), (.int (114 : Int32)), (.int (105 : Int32)), (.int (99 : Int32)), (.int (116 : Int32)), (.int (45 : Int32)), (.int (97 : Int32)), (.int (116 : Int32)), (.int (116 : Int32)), (.int (111 : Int32)), (.int (0 : Int32)), (.int (0 : Int32)), (.int (0 : Int32)), (.int (0 : Int32)), (.int (0 : Int32))]) (pc' := 76) C X113 e113 A113 (by decide) (by decide) (by simp) (by decide) rfl d19_75 rfl ?_
  intro T114 h114 X114 e114 W114 A114
  have N114 := Fr.snoc X114 N113 n_b101
  refine Go.dup (pc' := 77) C X114 d19_76 rfl rfl ?_
  refine Go.bipush (z := (13 : Int32)) (pc' := 79) C X114 d19_77 rfl rfl ?_
  refine Go.bipush (z := (114 : Int32)) (pc' := 81) C X114 d19_79 rfl rfl ?_
  refine Go.stC (i := 13) (x' := (114 : Int32)) (vs' := [(.int (100 : Int32)), (.int (105 : Int32)), (.int (115 : Int32)), (.int (116 : Int32)), (.int (114 : Int32)), (.int (105 : Int32)), (.int (99 : Int32)), (.int (116 : Int32)), (.int (45 : Int32)), (.int (97 : Int32)), (.int (116 : Int32)), (.int (116 : Int32)), (.int (111 : Int32)), (.int (114 : Int32)), (.int (0 : Int32)), (.int (0 : Int32)), (.int (0 : Int32)), (.int (0 : Int32))]) (pc' := 82) C X114 e114 A114 (by decide) (by decide) (by simp) (by decide) rfl d19_81 rfl ?_
  intro T115 h115 X115 e115 W115 A115
  have N115 := Fr.snoc X115 N114 n_b101
  refine Go.dup (pc' := 83) C X115 d19_82 rfl rfl ?_
  refine Go.bipush (z := (14 : Int32)) (pc' := 85) C X115 d19_83 rfl rfl ?_
  refine Go.bipush (z := (110 : Int32)) (pc' := 87) C X115 d19_85 rfl rfl ?_
  refine Go.stC (i := 14) (x' := (110 : Int32)) (vs' := [(.int (100 : Int32)), (.int (105 : Int32)), (.int (115 : Int32)), (.int (116 : Int32)), (.int (114 : Int32)), (.int (105 : Int32)), (.int (99 : Int32)), (.int (116 : Int32)), (.int (45 : Int32)), (.int (97 : Int32)), (.int (116 : Int32)), (.int (116 : Int32)), (.int (111 : Int32)), (.int (114 : Int32)), (.int (110 : Int32)), (.int (0 : Int32)), (.int (0 : Int32)), (.int (0 : Int32))]) (pc' := 88) C X115 e115 A115 (by decide) (by decide) (by simp) (by decide) rfl d19_87 rfl ?_
  intro T116 h116 X116 e116 W116 A116
  have N116 := Fr.snoc X116 N115 n_b101
  refine Go.dup (pc' := 89) C X116 d19_88 rfl rfl ?_
  refine Go.bipush (z := (15 : Int32)) (pc' := 91) C X116 d19_89 rfl rfl ?_
  refine Go.bipush (z := (101 : Int32)) (pc' := 93) C X116 d19_91 rfl rfl ?_
  refine Go.stC (i := 15) (x' := (101 : Int32)) (vs' := [(.int (100 : Int32)), (.int (105 : Int32)), (.int (115 : Int32)), (.int (116 : Int32)), (.int (114 : Int32)), (.int (105 : Int32)), (.int (99 : Int32)), (.int (116 : Int32)), (.int (45 : Int32)), (.int (97 : Int32)), (.int (116 : Int32)), (.int (116 : Int32)), (.int (111 : Int32)), (.int (114 : Int32)), (.int (110 : Int32)), (.int (101 : Int32)), (.int (0 : Int32)), (.int (0 : Int32))]) (pc' := 94) C X116 e116 A116 (by decide) (by decide) (by simp) (by decide) rfl d19_93 rfl ?_
  intro T117 h117 X117 e117 W117 A117
  have N117 := Fr.snoc X117 N116 n_b101
  refine Go.dup (pc' := 95) C X117 d19_94 rfl rfl ?_
  refine Go.bipush (z := (16 : Int32)) (pc' := 97) C X117 d19_95 rfl rfl ?_
  refine Go.bipush (z := (121 : Int32)) (pc' := 99) C X117 d19_97 rfl rfl ?_
  refine Go.stC (i := 16) (x' := (121 : Int32)) (vs' := [(.int (100 : Int32)), (.int (105 : Int32)), (.int (115 : Int32)), (.int (116 : Int32)), (.int (114 : Int32)), (.int (105 : Int32)), (.int (99 : Int32)), (.int (116 : Int32)), (.int (45 : Int32)), (.int (97 : Int32)), (.int (116 : Int32)), (.int (116 : Int32)), (.int (111 : Int32)), (.int (114 : Int32)), (.int (110 : Int32)), (.int (101 : Int32)), (.int (121 : Int32)), (.int (0 : Int32))]) (pc' := 100) C X117 e117 A117 (by decide) (by decide) (by simp) (by decide) rfl d19_99 rfl ?_
  intro T118 h118 X118 e118 W118 A118
  have N118 := Fr.snoc X118 N117 n_b101
  refine Go.dup (pc' := 101) C X118 d19_100 rfl rfl ?_
  refine Go.bipush (z := (17 : Int32)) (pc' := 103) C X118 d19_101 rfl rfl ?_
  refine Go.iloadN (pc' := 104) C X118 d19_103 rfl rfl ?_
  refine Go.stC (i := 17) (x' := (y0 &&& (65535 : Int32))) (vs' := [(.int (100 : Int32)), (.int (105 : Int32)), (.int (115 : Int32)), (.int (116 : Int32)), (.int (114 : Int32)), (.int (105 : Int32)), (.int (99 : Int32)), (.int (116 : Int32)), (.int (45 : Int32)), (.int (97 : Int32)), (.int (116 : Int32)), (.int (116 : Int32)), (.int (111 : Int32)), (.int (114 : Int32)), (.int (110 : Int32)), (.int (101 : Int32)), (.int (121 : Int32)), (.int (y0 &&& (65535 : Int32)))]) (pc' := 105) C X118 e118 A118 (by decide) (by decide) (by simp) (n16 _) rfl d19_104 rfl ?_
  intro T119 h119 X119 e119 W119 A119
  have N119 := Fr.snoc X119 N118 n_b101
  have K120 : Keep h0 h119 [] := ((((((((((((((((((((Keep.refl h0 []).ext E101).wr W102 (Or.inr z_b101)).wr W103 (Or.inr z_b101)).wr W104 (Or.inr z_b101)).wr W105 (Or.inr z_b101)).wr W106 (Or.inr z_b101)).wr W107 (Or.inr z_b101)).wr W108 (Or.inr z_b101)).wr W109 (Or.inr z_b101)).wr W110 (Or.inr z_b101)).wr W111 (Or.inr z_b101)).wr W112 (Or.inr z_b101)).wr W113 (Or.inr z_b101)).wr W114 (Or.inr z_b101)).wr W115 (Or.inr z_b101)).wr W116 (Or.inr z_b101)).wr W117 (Or.inr z_b101)).wr W118 (Or.inr z_b101)).wr W119 (Or.inr z_b101))
  exact Go.retA C X119 rfl d19_105 rfl rfl rfl (by rw [e119]; exact ⟨b101, k101, rfl, N119, K120, z_b101, A119⟩) (by decide) (by decide)
def Q_eqC (Z : State) (s1 : Addr) (s2 : Addr) (cP : Int32) (h0 : Heap) (rv : Option Value) (h : Heap) (L : List Loc) : Prop := rv = some (.int (0 : Int32)) ∧ L = [] ∧ h = h0
theorem rm_eqC (l : Launch) (Z : State) (a0 : Array Value) (hw : ∀ d ∈ tables_1, d.before a0 Z = true) (s1 : Addr) (s2 : Addr) (cP : Int32) (h0 : Heap) (O0 : Ext Z.heap h0) (SC : Sta Z Z.heap "java/lang/String" "COMPACT_STRINGS" "Z" (.int cP)) (E1 : Exa Z h0 s1 "java/lang/String") (C1 : Fld Z h0 s1 "java/lang/String" "coder" "B" (.int (0 : Int32))) (E2 : Exa Z h0 s2 "java/lang/String") (C2 : Fld Z h0 s2 "java/lang/String" "coder" "B" (.int (1 : Int32))) (hne : s1 ≠ s2) (hP : ¬ cP = (0 : Int32)) :
    Met1 l Z mN10 jdk_42_method_66_code 3 (some .boolean) ({ frames := 0, cells := 0, slots := 0, locals := 0 } : Room) #[(.ref s1), (.ref s2)] h0 (Q_eqC Z s1 s2 cP h0) := by
  refine Met1.of_body (Ls := #[.val (.ref s1), .val (.ref s2), .unset]) pf_8 (fun m => by first | (simp [entryFrame, mkF, argsToLocals, Value.category]; done) | rfl) ?_
  intro p e s m below meth c T0 C X0 e0
  have N0 : Fr Z.heap.size [] := Fr.nil _
  refine Go.aloadN (pc' := 1) C X0 d8_0 rfl rfl rfl ?_
  refine Go.aloadN (pc' := 2) C X0 d8_1 rfl rfl rfl ?_
  refine Go.acmpYes (pc' := 7) C X0 d8_2 rfl rfl (XT.aa_ne_t (fun q => hne (Value.ref.inj q))) (by decide) (by decide) ?_
  refine Go.aloadN (pc' := 8) C X0 d8_7 rfl rfl rfl ?_
  refine Go.instY (pc' := 11) C X0 (tw hw 43 rfl) e0 (Ins.self E2) d8_8 rfl ?_
  intro T101 X101 e101
  refine Go.ifNo (pc' := 14) C X101 d8_11 ((if0 _ _).trans (feq (x := (1 : Int32)) (y := (0 : Int32)) (by decide)).1) rfl ?_
  refine Go.aloadN (pc' := 15) C X101 d8_14 rfl rfl rfl ?_
  refine Go.castY (pc' := 18) C X101 (tw hw 43 rfl) e101 (Ins.self E2) d8_15 rfl ?_
  intro T103 X103 e103
  refine Go.astoreN (Ls' := #[.val (.ref s1), .val (.ref s2), .val (.ref s2)]) (pc' := 19) C X103 d8_18 rfl rfl rfl ?_
  refine Go.getS (pc' := 22) (host := "") C X103 (Or.inl (tw hw 19 rfl)) Via.refl e103 (SC.ext O0) d8_19 rfl ?_
  intro T104 X104 e104
  refine Go.ifNo (pc' := 25) C X104 d8_22 ((if0 _ _).trans (feq (x := cP) (y := (0 : Int32)) hP).1) rfl ?_
  refine Go.aloadN (pc' := 26) C X104 d8_25 rfl rfl rfl ?_
  refine Go.getF (pc' := 29) (host := "") C X104 (Or.inl (tw hw 31 rfl)) Via.refl e104 C1 d8_26 rfl ?_
  intro T106 X106 e106
  refine Go.aloadN (pc' := 30) C X106 d8_29 rfl rfl rfl ?_
  refine Go.getF (pc' := 33) (host := "") C X106 (Or.inl (tw hw 31 rfl)) Via.refl e106 C2 d8_30 rfl ?_
  intro T107 X107 e107
  refine Go.icmpYes (pc' := 54) C X107 d8_33 (feq (x := (0 : Int32)) (y := (1 : Int32)) (by decide)).2 (by decide) (by decide) ?_
  refine Go.iconst (z := (0 : Int32)) (pc' := 55) C X107 d8_54 rfl rfl ?_
  exact Go.retN C X107 rfl d8_55 (by simp) (by rw [e107]; exact ⟨rfl, rfl, rfl⟩) (by decide) (by decide)
theorem pf_11 : plainFor mN1 = true := plainFor_of_name (by first | (simp [plainName, overriddenIn]; done) | decide +kernel)
theorem d11_0 : decode prog_38_method_1_code 0 = .ok (.getstatic 10, 3) := by decide +kernel
theorem d11_3 : decode prog_38_method_1_code 3 = .ok (.invokevirtual 14, 3) := by decide +kernel
theorem d11_6 : decode prog_38_method_1_code 6 = .ok (.checkcast 15, 3) := by decide +kernel
theorem d11_9 : decode prog_38_method_1_code 9 = .ok (.areturn, 1) := by decide +kernel
def Q_vals (Z : State) (va : Addr) (vk : ClassId) (le0 : Addr) (da0 : Addr) (h0 : Heap) (rv : Option Value) (h : Heap) (L : List Loc) : Prop := ∃ b : Addr, ∃ kb : ClassId, rv = some (.ref b) ∧ Fr Z.heap.size L ∧ Keep h0 h [] ∧ h0.size ≤ b ∧ AL Z h b kb (.object "com/example/bailiwick/bailiwick/Source") [(.ref le0), (.ref da0)]
theorem rm_vals (l : Launch) (Z : State) (a0 : Array Value) (hw : ∀ d ∈ tables_1, d.before a0 Z = true) (va : Addr) (vk : ClassId) (le0 : Addr) (da0 : Addr) (h0 : Heap) (O0 : Ext Z.heap h0) (SV : Sta Z Z.heap "com/example/bailiwick/bailiwick/Source" "$VALUES" "[Lcom/example/bailiwick/bailiwick/Source;" (.ref va)) (Ev : Exa Z Z.heap va "[Lcom/example/bailiwick/bailiwick/Source;") (Av : AL Z Z.heap va vk (.object "com/example/bailiwick/bailiwick/Source") [(.ref le0), (.ref da0)]) :
    Met1 l Z mN1 prog_38_method_1_code 0 (some (.array (.object "com/example/bailiwick/bailiwick/Source"))) ({ frames := 1, cells := 1, slots := 2, locals := 14 } : Room) #[] h0 (Q_vals Z va vk le0 da0 h0) := by
  refine Met1.of_body (Ls := #[]) pf_11 (fun m => by first | (simp [entryFrame, mkF, argsToLocals, Value.category]; done) | rfl) ?_
  intro p e s m below meth c T0 C X0 e0
  have N0 : Fr Z.heap.size [] := Fr.nil _
  refine Go.getS (pc' := 3) (host := "") C X0 (Or.inl (tw hw 57 rfl)) Via.refl e0 (SV.ext O0) d11_0 rfl ?_
  intro T101 X101 e101
  refine Go.clone (ad := "[Lcom/example/bailiwick/bailiwick/Source;") (W := 0) (cap := 2) (pc' := 6) C X101 (tw hw 59 rfl) (tw hw 60 rfl) (tw hw 64 rfl) (tw hw 62 rfl) (tw hw 63 rfl) (tw hw 65 rfl) e101 (Av.ext O0) (Exa.ext O0 Ev) (by simp [fits]) rfl (by decide) (Nat.le_of_eq rfl) (by decide) (by simp) (by decide) (by decide) d11_3 rfl ?_
  intro T102 h102 b102 X102 e102 g102 E102 A102 Ea102
  have n_b102 : Z.heap.size ≤ b102 := Nat.le_trans O0.1 (Nat.le_of_eq g102.symm)
  have z_b102 : h0.size ≤ b102 := Nat.le_trans (Nat.le_refl _) (Nat.le_of_eq g102.symm)
  refine Go.castY (pc' := 9) C X102 (tw hw 68 rfl) e102 (Ins.self Ea102) d11_6 rfl ?_
  intro T103 X103 e103
  have K104 : Keep h0 h102 [] := ((Keep.refl h0 []).ext E102)
  exact Go.retA C X103 rfl d11_9 rfl rfl rfl (by rw [e103]; exact ⟨b102, vk, rfl, N0, K104, z_b102, A102⟩) (by decide) (by decide)
theorem pd_9 : parseMethodDescriptor "()[Lcom/example/bailiwick/bailiwick/Source;" = some ⟨[], some (.array (.object "com/example/bailiwick/bailiwick/Source"))⟩ := by decide +kernel
theorem pd_10 : parseMethodDescriptor "(Ljava/lang/Object;)Z" = some ⟨[(.object "java/lang/Object")], some .boolean⟩ := by decide +kernel
theorem pf_10 : plainFor mN0 = true := plainFor_of_name (by first | (simp [plainName, overriddenIn]; done) | decide +kernel)
theorem d10_0 : decode prog_38_method_4_code 0 = .ok (.aconst_null, 1) := by decide +kernel
theorem d10_1 : decode prog_38_method_4_code 1 = .ok (.astore_n 1, 1) := by decide +kernel
theorem d10_2 : decode prog_38_method_4_code 2 = .ok (.invokestatic 33, 3) := by decide +kernel
theorem d10_5 : decode prog_38_method_4_code 5 = .ok (.astore_n 2, 1) := by decide +kernel
theorem d10_6 : decode prog_38_method_4_code 6 = .ok (.aload_n 2, 1) := by decide +kernel
theorem d10_7 : decode prog_38_method_4_code 7 = .ok (.arraylength, 1) := by decide +kernel
theorem d10_8 : decode prog_38_method_4_code 8 = .ok (.istore_n 3, 1) := by decide +kernel
theorem d10_9 : decode prog_38_method_4_code 9 = .ok (.iconst 0, 1) := by decide +kernel
theorem d10_10 : decode prog_38_method_4_code 10 = .ok (.istore 4, 2) := by decide +kernel
theorem d10_12 : decode prog_38_method_4_code 12 = .ok (.iload 4, 2) := by decide +kernel
theorem d10_14 : decode prog_38_method_4_code 14 = .ok (.iload_n 3, 1) := by decide +kernel
theorem d10_15 : decode prog_38_method_4_code 15 = .ok (.if_icmp .ge 33, 3) := by decide +kernel
theorem d10_18 : decode prog_38_method_4_code 18 = .ok (.aload_n 2, 1) := by decide +kernel
theorem d10_19 : decode prog_38_method_4_code 19 = .ok (.iload 4, 2) := by decide +kernel
theorem d10_21 : decode prog_38_method_4_code 21 = .ok (.aaload, 1) := by decide +kernel
theorem d10_22 : decode prog_38_method_4_code 22 = .ok (.astore 5, 2) := by decide +kernel
theorem d10_24 : decode prog_38_method_4_code 24 = .ok (.aload 5, 2) := by decide +kernel
theorem d10_26 : decode prog_38_method_4_code 26 = .ok (.getfield 29, 3) := by decide +kernel
theorem d10_29 : decode prog_38_method_4_code 29 = .ok (.aload_n 0, 1) := by decide +kernel
theorem d10_30 : decode prog_38_method_4_code 30 = .ok (.invokevirtual 37, 3) := by decide +kernel
theorem d10_33 : decode prog_38_method_4_code 33 = .ok (.ifCond .eq 9, 3) := by decide +kernel
theorem d10_36 : decode prog_38_method_4_code 36 = .ok (.aload 5, 2) := by decide +kernel
theorem d10_38 : decode prog_38_method_4_code 38 = .ok (.astore_n 1, 1) := by decide +kernel
theorem d10_39 : decode prog_38_method_4_code 39 = .ok (.goto 9, 3) := by decide +kernel
theorem d10_48 : decode prog_38_method_4_code 48 = .ok (.aload_n 1, 1) := by decide +kernel
theorem d10_49 : decode prog_38_method_4_code 49 = .ok (.areturn, 1) := by decide +kernel
def Q_nmLle (Z : State) (va : Addr) (vk : ClassId) (le0 : Addr) (tle : Addr) (lev : Addr) (lek : ClassId) (da0 : Addr) (tda : Addr) (dav : Addr) (dak : ClassId) (s2 : Addr) (cP : Int32) (v2 : Addr) (k2 : ClassId) (ys : List Int32) (h0 : Heap) (rv : Option Value) (h : Heap) (L : List Loc) : Prop := rv = some (.ref le0) ∧ Fr Z.heap.size L ∧ Keep h0 h []
theorem rm_nmLle (l : Launch) (Z : State) (a0 : Array Value) (hw : ∀ d ∈ tables_1, d.before a0 Z = true) (va : Addr) (vk : ClassId) (le0 : Addr) (tle : Addr) (lev : Addr) (lek : ClassId) (da0 : Addr) (tda : Addr) (dav : Addr) (dak : ClassId) (s2 : Addr) (cP : Int32) (v2 : Addr) (k2 : ClassId) (ys : List Int32) (h0 : Heap) (O0 : Ext Z.heap h0) (SV : Sta Z Z.heap "com/example/bailiwick/bailiwick/Source" "$VALUES" "[Lcom/example/bailiwick/bailiwick/Source;" (.ref va)) (Ev : Exa Z Z.heap va "[Lcom/example/bailiwick/bailiwick/Source;") (Av : AL Z Z.heap va vk (.object "com/example/bailiwick/bailiwick/Source") [(.ref le0), (.ref da0)]) (Tle : Fld Z Z.heap le0 "com/example/bailiwick/bailiwick/Source" "text" "Ljava/lang/String;" (.ref tle)) (le_0 : Exa Z Z.heap tle "java/lang/String") (le_1 : Fld Z Z.heap tle "java/lang/String" "value" "[B" (.ref lev)) (le_2 : Fld Z Z.heap tle "java/lang/String" "coder" "B" (.int (0 : Int32))) (le_3 : AL Z Z.heap lev lek .byte (by8 leL)) (Tda : Fld Z Z.heap da0 "com/example/bailiwick/bailiwick/Source" "text" "Ljava/lang/String;" (.ref tda)) (da_0 : Exa Z Z.heap tda "java/lang/String") (da_1 : Fld Z Z.heap tda "java/lang/String" "value" "[B" (.ref dav)) (da_2 : Fld Z Z.heap tda "java/lang/String" "coder" "B" (.int (0 : Int32))) (da_3 : AL Z Z.heap dav dak .byte (by8 daL)) (E2 : Exa Z h0 s2 "java/lang/String") (V2 : Fld Z h0 s2 "java/lang/String" "value" "[B" (.ref v2)) (C2 : Fld Z h0 s2 "java/lang/String" "coder" "B" (.int (0 : Int32))) (B2 : AL Z h0 v2 k2 .byte (by8 ys)) (SC : Sta Z Z.heap "java/lang/String" "COMPACT_STRINGS" "Z" (.int cP)) (hP : ¬ cP = (0 : Int32)) (n1 : tle ≠ s2) (n2 : tda ≠ s2) (hl : ys.length < 2 ^ 31) (q1 : by8 leL = by8 ys) :
    Met1 l Z mN0 prog_38_method_4_code 6 (some (.object "com/example/bailiwick/bailiwick/Source")) ({ frames := 2, cells := 1, slots := 2, locals := 28 } : Room) #[(.ref s2)] h0 (Q_nmLle Z va vk le0 tle lev lek da0 tda dav dak s2 cP v2 k2 ys h0) := by
  refine Met1.of_body (Ls := #[.val (.ref s2), .unset, .unset, .unset, .unset, .unset]) pf_10 (fun m => by first | (simp [entryFrame, mkF, argsToLocals, Value.category]; done) | rfl) ?_
  intro p e s m below meth c T0 C X0 e0
  have N0 : Fr Z.heap.size [] := Fr.nil _
  refine Go.aconstNull (pc' := 1) C X0 d10_0 rfl ?_
  refine Go.astoreN (Ls' := #[.val (.ref s2), .val .null, .unset, .unset, .unset, .unset]) (pc' := 2) C X0 d10_1 rfl rfl rfl ?_
  refine Go.callS (y := mN1) (pc' := 5) C X0 (tw hw 54 rfl) (tw hw 55 rfl) (by decide) (rm_vals l Z a0 hw va vk le0 da0 h0 O0 SV Ev Av) (tw hw 56 rfl) (tw hw 49 rfl) e0 (argsL := []) (rest := []) (W := 0) rfl rfl pd_9 rfl (Nat.le_of_eq rfl) rfl (by decide) (by decide) (by decide) (by decide) d10_2 rfl ?_
  intro T101 v101 L101 X101 q101
  obtain ⟨b_101, kb_101, rfl, N101q, K101, B101_0, P101_0⟩ := q101
  have N101 := Fr.app N0 N101q
  have n_b_101 : Z.heap.size ≤ b_101 := Nat.le_trans O0.1 B101_0
  have z_b_101 : h0.size ≤ b_101 := Nat.le_trans (Nat.le_refl _) B101_0
  refine Go.astoreN (Ls' := #[.val (.ref s2), .val .null, .val (.ref b_101), .unset, .unset, .unset]) (pc' := 6) C X101 d10_5 rfl rfl rfl ?_
  refine Go.aloadN (pc' := 7) C X101 d10_6 rfl rfl rfl ?_
  refine Go.alen (z := (2 : Int32)) (pc' := 8) C X101 rfl P101_0 rfl d10_7 rfl ?_
  refine Go.istoreN (Ls' := #[.val (.ref s2), .val .null, .val (.ref b_101), .val (.int (2 : Int32)), .unset, .unset]) (pc' := 9) C X101 d10_8 rfl rfl ?_
  refine Go.iconst (z := (0 : Int32)) (pc' := 10) C X101 d10_9 rfl rfl ?_
  refine Go.istore (Ls' := #[.val (.ref s2), .val .null, .val (.ref b_101), .val (.int (2 : Int32)), .val (.int (0 : Int32)), .unset]) (pc' := 12) C X101 d10_10 rfl rfl ?_
  refine Go.iload (pc' := 14) C X101 d10_12 rfl rfl ?_
  refine Go.iloadN (pc' := 15) C X101 d10_14 rfl rfl ?_
  refine Go.icmpNo (pc' := 18) C X101 d10_15 (tlt (x := (0 : Int32)) (y := (2 : Int32)) (by decide)).2.1 rfl ?_
  refine Go.aloadN (pc' := 19) C X101 d10_18 rfl rfl rfl ?_
  refine Go.iload (pc' := 21) C X101 d10_19 rfl rfl ?_
  refine Go.ldR (i := 0) (v := (.ref le0)) (pc' := 22) C X101 rfl P101_0 (by decide) (by decide) rfl rfl d10_21 rfl ?_
  refine Go.astore (Ls' := #[.val (.ref s2), .val .null, .val (.ref b_101), .val (.int (2 : Int32)), .val (.int (0 : Int32)), .val (.ref le0)]) (pc' := 24) C X101 d10_22 rfl rfl rfl ?_
  refine Go.aload (pc' := 26) C X101 d10_24 rfl rfl rfl ?_
  have O104 : Ext Z.heap T101.heap := (Ext.keep O0 K101 all0)
  refine Go.getF (pc' := 29) (host := "") C X101 (Or.inl (tw hw 70 rfl)) Via.refl rfl (Tle.ext O104) d10_26 rfl ?_
  intro T103 X103 e103
  refine Go.aloadN (pc' := 30) C X103 d10_29 rfl rfl rfl ?_
  have c106 : Exa Z T101.heap s2 "java/lang/String" := (Exa.keep E2 K101)
  have c107 : Fld Z T101.heap s2 "java/lang/String" "value" "[B" (.ref v2) := (Fld.keep V2 K101 nin0)
  have c108 : Fld Z T101.heap s2 "java/lang/String" "coder" "B" (.int (0 : Int32)) := (Fld.keep C2 K101 nin0)
  have c109 : AL Z T101.heap v2 k2 .byte (by8 ys) := (AL.keep B2 K101 nin0)
  refine Go.callV (y := mN10) (z := mN10) (a := tle) (pc' := 33) C X103 (tw hw 72 rfl) (tw hw 39 rfl) (notFace_at C.2.1 (tw hw 41 rfl)) (tw hw 41 rfl) (tw hw 40 rfl) (Exa.ext O104 le_0) (by decide) (rm_eqS l Z a0 hw tle s2 lev v2 lek k2 leL ys cP T101.heap O104 SC (Exa.ext O104 le_0) (le_1.ext O104) (le_2.ext O104) (le_3.ext O104) c106 c107 c108 c109 n1 hP (by decide) hl) (tw hw 42 rfl) (tw hw 3 rfl) e103 (argsL := [(.ref s2)]) (rest := []) (W := 0) rfl rfl pd_10 rfl (Nat.le_of_eq rfl) rfl (by decide) (by decide) (by decide) (by decide) d10_30 rfl ?_
  intro T105 v105 L105 X105 q105
  obtain ⟨rfl, rfl, e105⟩ := q105
  have N105 := Fr.app N101 (Fr.nil _)
  refine Go.ifNo (pc' := 36) C X105 d10_33 ((if0 _ _).trans (feq (x := (if by8 leL = by8 ys then (1 : Int32) else 0)) (y := (0 : Int32)) (own_if1' q1)).1) rfl ?_
  refine Go.aload (pc' := 38) C X105 d10_36 rfl rfl rfl ?_
  refine Go.astoreN (Ls' := #[.val (.ref s2), .val (.ref le0), .val (.ref b_101), .val (.int (2 : Int32)), .val (.int (0 : Int32)), .val (.ref le0)]) (pc' := 39) C X105 d10_38 rfl rfl rfl ?_
  refine Go.goto (pc' := 48) C X105 d10_39 (by decide) (by decide) ?_
  refine Go.aloadN (pc' := 49) C X105 d10_48 rfl rfl rfl ?_
  have K111 : Keep h0 T101.heap [] := ((Keep.refl h0 []).trans K101 all0)
  exact Go.retA C X105 rfl d10_49 rfl rfl rfl (by rw [e105]; exact ⟨rfl, N105, K111⟩) (by decide) (by decide)
theorem d10_42 : decode prog_38_method_4_code 42 = .ok (.iinc 4 1, 3) := by decide +kernel
theorem d10_45 : decode prog_38_method_4_code 45 = .ok (.goto (-33), 3) := by decide +kernel
def Q_nmLda (Z : State) (va : Addr) (vk : ClassId) (le0 : Addr) (tle : Addr) (lev : Addr) (lek : ClassId) (da0 : Addr) (tda : Addr) (dav : Addr) (dak : ClassId) (s2 : Addr) (cP : Int32) (v2 : Addr) (k2 : ClassId) (ys : List Int32) (h0 : Heap) (rv : Option Value) (h : Heap) (L : List Loc) : Prop := rv = some (.ref da0) ∧ Fr Z.heap.size L ∧ Keep h0 h []
theorem rm_nmLda (l : Launch) (Z : State) (a0 : Array Value) (hw : ∀ d ∈ tables_1, d.before a0 Z = true) (va : Addr) (vk : ClassId) (le0 : Addr) (tle : Addr) (lev : Addr) (lek : ClassId) (da0 : Addr) (tda : Addr) (dav : Addr) (dak : ClassId) (s2 : Addr) (cP : Int32) (v2 : Addr) (k2 : ClassId) (ys : List Int32) (h0 : Heap) (O0 : Ext Z.heap h0) (SV : Sta Z Z.heap "com/example/bailiwick/bailiwick/Source" "$VALUES" "[Lcom/example/bailiwick/bailiwick/Source;" (.ref va)) (Ev : Exa Z Z.heap va "[Lcom/example/bailiwick/bailiwick/Source;") (Av : AL Z Z.heap va vk (.object "com/example/bailiwick/bailiwick/Source") [(.ref le0), (.ref da0)]) (Tle : Fld Z Z.heap le0 "com/example/bailiwick/bailiwick/Source" "text" "Ljava/lang/String;" (.ref tle)) (le_0 : Exa Z Z.heap tle "java/lang/String") (le_1 : Fld Z Z.heap tle "java/lang/String" "value" "[B" (.ref lev)) (le_2 : Fld Z Z.heap tle "java/lang/String" "coder" "B" (.int (0 : Int32))) (le_3 : AL Z Z.heap lev lek .byte (by8 leL)) (Tda : Fld Z Z.heap da0 "com/example/bailiwick/bailiwick/Source" "text" "Ljava/lang/String;" (.ref tda)) (da_0 : Exa Z Z.heap tda "java/lang/String") (da_1 : Fld Z Z.heap tda "java/lang/String" "value" "[B" (.ref dav)) (da_2 : Fld Z Z.heap tda "java/lang/String" "coder" "B" (.int (0 : Int32))) (da_3 : AL Z Z.heap dav dak .byte (by8 daL)) (E2 : Exa Z h0 s2 "java/lang/String") (V2 : Fld Z h0 s2 "java/lang/String" "value" "[B" (.ref v2)) (C2 : Fld Z h0 s2 "java/lang/String" "coder" "B" (.int (0 : Int32))) (B2 : AL Z h0 v2 k2 .byte (by8 ys)) (SC : Sta Z Z.heap "java/lang/String" "COMPACT_STRINGS" "Z" (.int cP)) (hP : ¬ cP = (0 : Int32)) (n1 : tle ≠ s2) (n2 : tda ≠ s2) (hl : ys.length < 2 ^ 31) (q1 : ¬ by8 leL = by8 ys) (q2 : by8 daL = by8 ys) :
    Met1 l Z mN0 prog_38_method_4_code 6 (some (.object "com/example/bailiwick/bailiwick/Source")) ({ frames := 2, cells := 1, slots := 2, locals := 28 } : Room) #[(.ref s2)] h0 (Q_nmLda Z va vk le0 tle lev lek da0 tda dav dak s2 cP v2 k2 ys h0) := by
  refine Met1.of_body (Ls := #[.val (.ref s2), .unset, .unset, .unset, .unset, .unset]) pf_10 (fun m => by first | (simp [entryFrame, mkF, argsToLocals, Value.category]; done) | rfl) ?_
  intro p e s m below meth c T0 C X0 e0
  have N0 : Fr Z.heap.size [] := Fr.nil _
  refine Go.aconstNull (pc' := 1) C X0 d10_0 rfl ?_
  refine Go.astoreN (Ls' := #[.val (.ref s2), .val .null, .unset, .unset, .unset, .unset]) (pc' := 2) C X0 d10_1 rfl rfl rfl ?_
  refine Go.callS (y := mN1) (pc' := 5) C X0 (tw hw 54 rfl) (tw hw 55 rfl) (by decide) (rm_vals l Z a0 hw va vk le0 da0 h0 O0 SV Ev Av) (tw hw 56 rfl) (tw hw 49 rfl) e0 (argsL := []) (rest := []) (W := 0) rfl rfl pd_9 rfl (Nat.le_of_eq rfl) rfl (by decide) (by decide) (by decide) (by decide) d10_2 rfl ?_
  intro T101 v101 L101 X101 q101
  obtain ⟨b_101, kb_101, rfl, N101q, K101, B101_0, P101_0⟩ := q101
  have N101 := Fr.app N0 N101q
  have n_b_101 : Z.heap.size ≤ b_101 := Nat.le_trans O0.1 B101_0
  have z_b_101 : h0.size ≤ b_101 := Nat.le_trans (Nat.le_refl _) B101_0
  refine Go.astoreN (Ls' := #[.val (.ref s2), .val .null, .val (.ref b_101), .unset, .unset, .unset]) (pc' := 6) C X101 d10_5 rfl rfl rfl ?_
  refine Go.aloadN (pc' := 7) C X101 d10_6 rfl rfl rfl ?_
  refine Go.alen (z := (2 : Int32)) (pc' := 8) C X101 rfl P101_0 rfl d10_7 rfl ?_
  refine Go.istoreN (Ls' := #[.val (.ref s2), .val .null, .val (.ref b_101), .val (.int (2 : Int32)), .unset, .unset]) (pc' := 9) C X101 d10_8 rfl rfl ?_
  refine Go.iconst (z := (0 : Int32)) (pc' := 10) C X101 d10_9 rfl rfl ?_
  refine Go.istore (Ls' := #[.val (.ref s2), .val .null, .val (.ref b_101), .val (.int (2 : Int32)), .val (.int (0 : Int32)), .unset]) (pc' := 12) C X101 d10_10 rfl rfl ?_
  refine Go.iload (pc' := 14) C X101 d10_12 rfl rfl ?_
  refine Go.iloadN (pc' := 15) C X101 d10_14 rfl rfl ?_
  refine Go.icmpNo (pc' := 18) C X101 d10_15 (tlt (x := (0 : Int32)) (y := (2 : Int32)) (by decide)).2.1 rfl ?_
  refine Go.aloadN (pc' := 19) C X101 d10_18 rfl rfl rfl ?_
  refine Go.iload (pc' := 21) C X101 d10_19 rfl rfl ?_
  refine Go.ldR (i := 0) (v := (.ref le0)) (pc' := 22) C X101 rfl P101_0 (by decide) (by decide) rfl rfl d10_21 rfl ?_
  refine Go.astore (Ls' := #[.val (.ref s2), .val .null, .val (.ref b_101), .val (.int (2 : Int32)), .val (.int (0 : Int32)), .val (.ref le0)]) (pc' := 24) C X101 d10_22 rfl rfl rfl ?_
  refine Go.aload (pc' := 26) C X101 d10_24 rfl rfl rfl ?_
  have O104 : Ext Z.heap T101.heap := (Ext.keep O0 K101 all0)
  refine Go.getF (pc' := 29) (host := "") C X101 (Or.inl (tw hw 70 rfl)) Via.refl rfl (Tle.ext O104) d10_26 rfl ?_
  intro T103 X103 e103
  refine Go.aloadN (pc' := 30) C X103 d10_29 rfl rfl rfl ?_
  have c106 : Exa Z T101.heap s2 "java/lang/String" := (Exa.keep E2 K101)
  have c107 : Fld Z T101.heap s2 "java/lang/String" "value" "[B" (.ref v2) := (Fld.keep V2 K101 nin0)
  have c108 : Fld Z T101.heap s2 "java/lang/String" "coder" "B" (.int (0 : Int32)) := (Fld.keep C2 K101 nin0)
  have c109 : AL Z T101.heap v2 k2 .byte (by8 ys) := (AL.keep B2 K101 nin0)
  refine Go.callV (y := mN10) (z := mN10) (a := tle) (pc' := 33) C X103 (tw hw 72 rfl) (tw hw 39 rfl) (notFace_at C.2.1 (tw hw 41 rfl)) (tw hw 41 rfl) (tw hw 40 rfl) (Exa.ext O104 le_0) (by decide) (rm_eqS l Z a0 hw tle s2 lev v2 lek k2 leL ys cP T101.heap O104 SC (Exa.ext O104 le_0) (le_1.ext O104) (le_2.ext O104) (le_3.ext O104) c106 c107 c108 c109 n1 hP (by decide) hl) (tw hw 42 rfl) (tw hw 3 rfl) e103 (argsL := [(.ref s2)]) (rest := []) (W := 0) rfl rfl pd_10 rfl (Nat.le_of_eq rfl) rfl (by decide) (by decide) (by decide) (by decide) d10_30 rfl ?_
  intro T105 v105 L105 X105 q105
  obtain ⟨rfl, rfl, e105⟩ := q105
  have N105 := Fr.app N101 (Fr.nil _)
  refine Go.ifYes (pc' := 42) C X105 d10_33 ((if0 _ _).trans (teq (x := (if by8 leL = by8 ys then (1 : Int32) else 0)) (y := (0 : Int32)) (own_ifO q1)).1) (by decide) (by decide) ?_
  refine Go.iinc (Ls' := #[.val (.ref s2), .val .null, .val (.ref b_101), .val (.int (2 : Int32)), .val (.int ((0 : Int32) + (1 : Int32))), .val (.ref le0)]) (z := (1 : Int32)) (pc' := 45) C X105 d10_42 rfl rfl rfl rfl ?_
  rw [show ((0 : Int32) + (1 : Int32)) = (1 : Int32) from by decide]
  refine Go.goto (pc' := 12) C X105 d10_45 (by decide) (by decide) ?_
  refine Go.iload (pc' := 14) C X105 d10_12 rfl rfl ?_
  refine Go.iloadN (pc' := 15) C X105 d10_14 rfl rfl ?_
  refine Go.icmpNo (pc' := 18) C X105 d10_15 (tlt (x := (1 : Int32)) (y := (2 : Int32)) (by decide)).2.1 rfl ?_
  refine Go.aloadN (pc' := 19) C X105 d10_18 rfl rfl rfl ?_
  refine Go.iload (pc' := 21) C X105 d10_19 rfl rfl ?_
  refine Go.ldR (i := 1) (v := (.ref da0)) (pc' := 22) C X105 e105 P101_0 (by decide) (by decide) rfl rfl d10_21 rfl ?_
  refine Go.astore (Ls' := #[.val (.ref s2), .val .null, .val (.ref b_101), .val (.int (2 : Int32)), .val (.int (1 : Int32)), .val (.ref da0)]) (pc' := 24) C X105 d10_22 rfl rfl rfl ?_
  refine Go.aload (pc' := 26) C X105 d10_24 rfl rfl rfl ?_
  refine Go.getF (pc' := 29) (host := "") C X105 (Or.inl (tw hw 70 rfl)) Via.refl e105 (Tda.ext O104) d10_26 rfl ?_
  intro T112 X112 e112
  refine Go.aloadN (pc' := 30) C X112 d10_29 rfl rfl rfl ?_
  refine Go.callV (y := mN10) (z := mN10) (a := tda) (pc' := 33) C X112 (tw hw 72 rfl) (tw hw 39 rfl) (notFace_at C.2.1 (tw hw 41 rfl)) (tw hw 41 rfl) (tw hw 40 rfl) (Exa.ext O104 da_0) (by decide) (rm_eqS l Z a0 hw tda s2 dav v2 dak k2 daL ys cP T101.heap O104 SC (Exa.ext O104 da_0) (da_1.ext O104) (da_2.ext O104) (da_3.ext O104) c106 c107 c108 c109 n2 hP (by decide) hl) (tw hw 42 rfl) (tw hw 3 rfl) e112 (argsL := [(.ref s2)]) (rest := []) (W := 0) rfl rfl pd_10 rfl (Nat.le_of_eq rfl) rfl (by decide) (by decide) (by decide) (by decide) d10_30 rfl ?_
  intro T113 v113 L113 X113 q113
  obtain ⟨rfl, rfl, e113⟩ := q113
  have N113 := Fr.app N105 (Fr.nil _)
  refine Go.ifNo (pc' := 36) C X113 d10_33 ((if0 _ _).trans (feq (x := (if by8 daL = by8 ys then (1 : Int32) else 0)) (y := (0 : Int32)) (own_if1' q2)).1) rfl ?_
  refine Go.aload (pc' := 38) C X113 d10_36 rfl rfl rfl ?_
  refine Go.astoreN (Ls' := #[.val (.ref s2), .val (.ref da0), .val (.ref b_101), .val (.int (2 : Int32)), .val (.int (1 : Int32)), .val (.ref da0)]) (pc' := 39) C X113 d10_38 rfl rfl rfl ?_
  refine Go.goto (pc' := 48) C X113 d10_39 (by decide) (by decide) ?_
  refine Go.aloadN (pc' := 49) C X113 d10_48 rfl rfl rfl ?_
  have K115 : Keep h0 T101.heap [] := ((Keep.refl h0 []).trans K101 all0)
  exact Go.retA C X113 rfl d10_49 rfl rfl rfl (by rw [e113]; exact ⟨rfl, N113, K115⟩) (by decide) (by decide)
def Q_nmLno (Z : State) (va : Addr) (vk : ClassId) (le0 : Addr) (tle : Addr) (lev : Addr) (lek : ClassId) (da0 : Addr) (tda : Addr) (dav : Addr) (dak : ClassId) (s2 : Addr) (cP : Int32) (v2 : Addr) (k2 : ClassId) (ys : List Int32) (h0 : Heap) (rv : Option Value) (h : Heap) (L : List Loc) : Prop := rv = some .null ∧ Fr Z.heap.size L ∧ Keep h0 h []
theorem rm_nmLno (l : Launch) (Z : State) (a0 : Array Value) (hw : ∀ d ∈ tables_1, d.before a0 Z = true) (va : Addr) (vk : ClassId) (le0 : Addr) (tle : Addr) (lev : Addr) (lek : ClassId) (da0 : Addr) (tda : Addr) (dav : Addr) (dak : ClassId) (s2 : Addr) (cP : Int32) (v2 : Addr) (k2 : ClassId) (ys : List Int32) (h0 : Heap) (O0 : Ext Z.heap h0) (SV : Sta Z Z.heap "com/example/bailiwick/bailiwick/Source" "$VALUES" "[Lcom/example/bailiwick/bailiwick/Source;" (.ref va)) (Ev : Exa Z Z.heap va "[Lcom/example/bailiwick/bailiwick/Source;") (Av : AL Z Z.heap va vk (.object "com/example/bailiwick/bailiwick/Source") [(.ref le0), (.ref da0)]) (Tle : Fld Z Z.heap le0 "com/example/bailiwick/bailiwick/Source" "text" "Ljava/lang/String;" (.ref tle)) (le_0 : Exa Z Z.heap tle "java/lang/String") (le_1 : Fld Z Z.heap tle "java/lang/String" "value" "[B" (.ref lev)) (le_2 : Fld Z Z.heap tle "java/lang/String" "coder" "B" (.int (0 : Int32))) (le_3 : AL Z Z.heap lev lek .byte (by8 leL)) (Tda : Fld Z Z.heap da0 "com/example/bailiwick/bailiwick/Source" "text" "Ljava/lang/String;" (.ref tda)) (da_0 : Exa Z Z.heap tda "java/lang/String") (da_1 : Fld Z Z.heap tda "java/lang/String" "value" "[B" (.ref dav)) (da_2 : Fld Z Z.heap tda "java/lang/String" "coder" "B" (.int (0 : Int32))) (da_3 : AL Z Z.heap dav dak .byte (by8 daL)) (E2 : Exa Z h0 s2 "java/lang/String") (V2 : Fld Z h0 s2 "java/lang/String" "value" "[B" (.ref v2)) (C2 : Fld Z h0 s2 "java/lang/String" "coder" "B" (.int (0 : Int32))) (B2 : AL Z h0 v2 k2 .byte (by8 ys)) (SC : Sta Z Z.heap "java/lang/String" "COMPACT_STRINGS" "Z" (.int cP)) (hP : ¬ cP = (0 : Int32)) (n1 : tle ≠ s2) (n2 : tda ≠ s2) (hl : ys.length < 2 ^ 31) (q1 : ¬ by8 leL = by8 ys) (q2 : ¬ by8 daL = by8 ys) :
    Met1 l Z mN0 prog_38_method_4_code 6 (some (.object "com/example/bailiwick/bailiwick/Source")) ({ frames := 2, cells := 1, slots := 2, locals := 28 } : Room) #[(.ref s2)] h0 (Q_nmLno Z va vk le0 tle lev lek da0 tda dav dak s2 cP v2 k2 ys h0) := by
  refine Met1.of_body (Ls := #[.val (.ref s2), .unset, .unset, .unset, .unset, .unset]) pf_10 (fun m => by first | (simp [entryFrame, mkF, argsToLocals, Value.category]; done) | rfl) ?_
  intro p e s m below meth c T0 C X0 e0
  have N0 : Fr Z.heap.size [] := Fr.nil _
  refine Go.aconstNull (pc' := 1) C X0 d10_0 rfl ?_
  refine Go.astoreN (Ls' := #[.val (.ref s2), .val .null, .unset, .unset, .unset, .unset]) (pc' := 2) C X0 d10_1 rfl rfl rfl ?_
  refine Go.callS (y := mN1) (pc' := 5) C X0 (tw hw 54 rfl) (tw hw 55 rfl) (by decide) (rm_vals l Z a0 hw va vk le0 da0 h0 O0 SV Ev Av) (tw hw 56 rfl) (tw hw 49 rfl) e0 (argsL := []) (rest := []) (W := 0) rfl rfl pd_9 rfl (Nat.le_of_eq rfl) rfl (by decide) (by decide) (by decide) (by decide) d10_2 rfl ?_
  intro T101 v101 L101 X101 q101
  obtain ⟨b_101, kb_101, rfl, N101q, K101, B101_0, P101_0⟩ := q101
  have N101 := Fr.app N0 N101q
  have n_b_101 : Z.heap.size ≤ b_101 := Nat.le_trans O0.1 B101_0
  have z_b_101 : h0.size ≤ b_101 := Nat.le_trans (Nat.le_refl _) B101_0
  refine Go.astoreN (Ls' := #[.val (.ref s2), .val .null, .val (.ref b_101), .unset, .unset, .unset]) (pc' := 6) C X101 d10_5 rfl rfl rfl ?_
  refine Go.aloadN (pc' := 7) C X101 d10_6 rfl rfl rfl ?_
  refine Go.alen (z := (2 : Int32)) (pc' := 8) C X101 rfl P101_0 rfl d10_7 rfl ?_
  refine Go.istoreN (Ls' := #[.val (.ref s2), .val .null, .val (.ref b_101), .val (.int (2 : Int32)), .unset, .unset]) (pc' := 9) C X101 d10_8 rfl rfl ?_
  refine Go.iconst (z := (0 : Int32)) (pc' := 10) C X101 d10_9 rfl rfl ?_
  refine Go.istore (Ls' := #[.val (.ref s2), .val .null, .val (.ref b_101), .val (.int (2 : Int32)), .val (.int (0 : Int32)), .unset]) (pc' := 12) C X101 d10_10 rfl rfl ?_
  refine Go.iload (pc' := 14) C X101 d10_12 rfl rfl ?_
  refine Go.iloadN (pc' := 15) C X101 d10_14 rfl rfl ?_
  refine Go.icmpNo (pc' := 18) C X101 d10_15 (tlt (x := (0 : Int32)) (y := (2 : Int32)) (by decide)).2.1 rfl ?_
  refine Go.aloadN (pc' := 19) C X101 d10_18 rfl rfl rfl ?_
  refine Go.iload (pc' := 21) C X101 d10_19 rfl rfl ?_
  refine Go.ldR (i := 0) (v := (.ref le0)) (pc' := 22) C X101 rfl P101_0 (by decide) (by decide) rfl rfl d10_21 rfl ?_
  refine Go.astore (Ls' := #[.val (.ref s2), .val .null, .val (.ref b_101), .val (.int (2 : Int32)), .val (.int (0 : Int32)), .val (.ref le0)]) (pc' := 24) C X101 d10_22 rfl rfl rfl ?_
  refine Go.aload (pc' := 26) C X101 d10_24 rfl rfl rfl ?_
  have O104 : Ext Z.heap T101.heap := (Ext.keep O0 K101 all0)
  refine Go.getF (pc' := 29) (host := "") C X101 (Or.inl (tw hw 70 rfl)) Via.refl rfl (Tle.ext O104) d10_26 rfl ?_
  intro T103 X103 e103
  refine Go.aloadN (pc' := 30) C X103 d10_29 rfl rfl rfl ?_
  have c106 : Exa Z T101.heap s2 "java/lang/String" := (Exa.keep E2 K101)
  have c107 : Fld Z T101.heap s2 "java/lang/String" "value" "[B" (.ref v2) := (Fld.keep V2 K101 nin0)
  have c108 : Fld Z T101.heap s2 "java/lang/String" "coder" "B" (.int (0 : Int32)) := (Fld.keep C2 K101 nin0)
  have c109 : AL Z T101.heap v2 k2 .byte (by8 ys) := (AL.keep B2 K101 nin0)
  refine Go.callV (y := mN10) (z := mN10) (a := tle) (pc' := 33) C X103 (tw hw 72 rfl) (tw hw 39 rfl) (notFace_at C.2.1 (tw hw 41 rfl)) (tw hw 41 rfl) (tw hw 40 rfl) (Exa.ext O104 le_0) (by decide) (rm_eqS l Z a0 hw tle s2 lev v2 lek k2 leL ys cP T101.heap O104 SC (Exa.ext O104 le_0) (le_1.ext O104) (le_2.ext O104) (le_3.ext O104) c106 c107 c108 c109 n1 hP (by decide) hl) (tw hw 42 rfl) (tw hw 3 rfl) e103 (argsL := [(.ref s2)]) (rest := []) (W := 0) rfl rfl pd_10 rfl (Nat.le_of_eq rfl) rfl (by decide) (by decide) (by decide) (by decide) d10_30 rfl ?_
  intro T105 v105 L105 X105 q105
  obtain ⟨rfl, rfl, e105⟩ := q105
  have N105 := Fr.app N101 (Fr.nil _)
  refine Go.ifYes (pc' := 42) C X105 d10_33 ((if0 _ _).trans (teq (x := (if by8 leL = by8 ys then (1 : Int32) else 0)) (y := (0 : Int32)) (own_ifO q1)).1) (by decide) (by decide) ?_
  refine Go.iinc (Ls' := #[.val (.ref s2), .val .null, .val (.ref b_101), .val (.int (2 : Int32)), .val (.int ((0 : Int32) + (1 : Int32))), .val (.ref le0)]) (z := (1 : Int32)) (pc' := 45) C X105 d10_42 rfl rfl rfl rfl ?_
  rw [show ((0 : Int32) + (1 : Int32)) = (1 : Int32) from by decide]
  refine Go.goto (pc' := 12) C X105 d10_45 (by decide) (by decide) ?_
  refine Go.iload (pc' := 14) C X105 d10_12 rfl rfl ?_
  refine Go.iloadN (pc' := 15) C X105 d10_14 rfl rfl ?_
  refine Go.icmpNo (pc' := 18) C X105 d10_15 (tlt (x := (1 : Int32)) (y := (2 : Int32)) (by decide)).2.1 rfl ?_
  refine Go.aloadN (pc' := 19) C X105 d10_18 rfl rfl rfl ?_
  refine Go.iload (pc' := 21) C X105 d10_19 rfl rfl ?_
  refine Go.ldR (i := 1) (v := (.ref da0)) (pc' := 22) C X105 e105 P101_0 (by decide) (by decide) rfl rfl d10_21 rfl ?_
  refine Go.astore (Ls' := #[.val (.ref s2), .val .null, .val (.ref b_101), .val (.int (2 : Int32)), .val (.int (1 : Int32)), .val (.ref da0)]) (pc' := 24) C X105 d10_22 rfl rfl rfl ?_
  refine Go.aload (pc' := 26) C X105 d10_24 rfl rfl rfl ?_
  refine Go.getF (pc' := 29) (host := "") C X105 (Or.inl (tw hw 70 rfl)) Via.refl e105 (Tda.ext O104) d10_26 rfl ?_
  intro T112 X112 e112
  refine Go.aloadN (pc' := 30) C X112 d10_29 rfl rfl rfl ?_
  refine Go.callV (y := mN10) (z := mN10) (a := tda) (pc' := 33) C X112 (tw hw 72 rfl) (tw hw 39 rfl) (notFace_at C.2.1 (tw hw 41 rfl)) (tw hw 41 rfl) (tw hw 40 rfl) (Exa.ext O104 da_0) (by decide) (rm_eqS l Z a0 hw tda s2 dav v2 dak k2 daL ys cP T101.heap O104 SC (Exa.ext O104 da_0) (da_1.ext O104) (da_2.ext O104) (da_3.ext O104) c106 c107 c108 c109 n2 hP (by decide) hl) (tw hw 42 rfl) (tw hw 3 rfl) e112 (argsL := [(.ref s2)]) (rest := []) (W := 0) rfl rfl pd_10 rfl (Nat.le_of_eq rfl) rfl (by decide) (by decide) (by decide) (by decide) d10_30 rfl ?_
  intro T113 v113 L113 X113 q113
  obtain ⟨rfl, rfl, e113⟩ := q113
  have N113 := Fr.app N105 (Fr.nil _)
  refine Go.ifYes (pc' := 42) C X113 d10_33 ((if0 _ _).trans (teq (x := (if by8 daL = by8 ys then (1 : Int32) else 0)) (y := (0 : Int32)) (own_ifO q2)).1) (by decide) (by decide) ?_
  refine Go.iinc (Ls' := #[.val (.ref s2), .val .null, .val (.ref b_101), .val (.int (2 : Int32)), .val (.int ((1 : Int32) + (1 : Int32))), .val (.ref da0)]) (z := (1 : Int32)) (pc' := 45) C X113 d10_42 rfl rfl rfl rfl ?_
  rw [show ((1 : Int32) + (1 : Int32)) = (2 : Int32) from by decide]
  refine Go.goto (pc' := 12) C X113 d10_45 (by decide) (by decide) ?_
  refine Go.iload (pc' := 14) C X113 d10_12 rfl rfl ?_
  refine Go.iloadN (pc' := 15) C X113 d10_14 rfl rfl ?_
  refine Go.icmpYes (pc' := 48) C X113 d10_15 (flt (x := (2 : Int32)) (y := (2 : Int32)) (by decide)).2.1 (by decide) (by decide) ?_
  refine Go.aloadN (pc' := 49) C X113 d10_48 rfl rfl rfl ?_
  have K116 : Keep h0 T101.heap [] := ((Keep.refl h0 []).trans K101 all0)
  exact Go.retA C X113 rfl d10_49 rfl rfl rfl (by rw [e113]; exact ⟨rfl, N113, K116⟩) (by decide) (by decide)
def Q_nmUno (Z : State) (va : Addr) (vk : ClassId) (le0 : Addr) (tle : Addr) (lev : Addr) (lek : ClassId) (da0 : Addr) (tda : Addr) (dav : Addr) (dak : ClassId) (s2 : Addr) (cP : Int32) (h0 : Heap) (rv : Option Value) (h : Heap) (L : List Loc) : Prop := rv = some .null ∧ Fr Z.heap.size L ∧ Keep h0 h []
theorem rm_nmUno (l : Launch) (Z : State) (a0 : Array Value) (hw : ∀ d ∈ tables_1, d.before a0 Z = true) (va : Addr) (vk : ClassId) (le0 : Addr) (tle : Addr) (lev : Addr) (lek : ClassId) (da0 : Addr) (tda : Addr) (dav : Addr) (dak : ClassId) (s2 : Addr) (cP : Int32) (h0 : Heap) (O0 : Ext Z.heap h0) (SV : Sta Z Z.heap "com/example/bailiwick/bailiwick/Source" "$VALUES" "[Lcom/example/bailiwick/bailiwick/Source;" (.ref va)) (Ev : Exa Z Z.heap va "[Lcom/example/bailiwick/bailiwick/Source;") (Av : AL Z Z.heap va vk (.object "com/example/bailiwick/bailiwick/Source") [(.ref le0), (.ref da0)]) (Tle : Fld Z Z.heap le0 "com/example/bailiwick/bailiwick/Source" "text" "Ljava/lang/String;" (.ref tle)) (le_0 : Exa Z Z.heap tle "java/lang/String") (le_1 : Fld Z Z.heap tle "java/lang/String" "value" "[B" (.ref lev)) (le_2 : Fld Z Z.heap tle "java/lang/String" "coder" "B" (.int (0 : Int32))) (le_3 : AL Z Z.heap lev lek .byte (by8 leL)) (Tda : Fld Z Z.heap da0 "com/example/bailiwick/bailiwick/Source" "text" "Ljava/lang/String;" (.ref tda)) (da_0 : Exa Z Z.heap tda "java/lang/String") (da_1 : Fld Z Z.heap tda "java/lang/String" "value" "[B" (.ref dav)) (da_2 : Fld Z Z.heap tda "java/lang/String" "coder" "B" (.int (0 : Int32))) (da_3 : AL Z Z.heap dav dak .byte (by8 daL)) (E2 : Exa Z h0 s2 "java/lang/String") (C2 : Fld Z h0 s2 "java/lang/String" "coder" "B" (.int (1 : Int32))) (SC : Sta Z Z.heap "java/lang/String" "COMPACT_STRINGS" "Z" (.int cP)) (hP : ¬ cP = (0 : Int32)) (n1 : tle ≠ s2) (n2 : tda ≠ s2) :
    Met1 l Z mN0 prog_38_method_4_code 6 (some (.object "com/example/bailiwick/bailiwick/Source")) ({ frames := 2, cells := 1, slots := 2, locals := 25 } : Room) #[(.ref s2)] h0 (Q_nmUno Z va vk le0 tle lev lek da0 tda dav dak s2 cP h0) := by
  refine Met1.of_body (Ls := #[.val (.ref s2), .unset, .unset, .unset, .unset, .unset]) pf_10 (fun m => by first | (simp [entryFrame, mkF, argsToLocals, Value.category]; done) | rfl) ?_
  intro p e s m below meth c T0 C X0 e0
  have N0 : Fr Z.heap.size [] := Fr.nil _
  refine Go.aconstNull (pc' := 1) C X0 d10_0 rfl ?_
  refine Go.astoreN (Ls' := #[.val (.ref s2), .val .null, .unset, .unset, .unset, .unset]) (pc' := 2) C X0 d10_1 rfl rfl rfl ?_
  refine Go.callS (y := mN1) (pc' := 5) C X0 (tw hw 54 rfl) (tw hw 55 rfl) (by decide) (rm_vals l Z a0 hw va vk le0 da0 h0 O0 SV Ev Av) (tw hw 56 rfl) (tw hw 49 rfl) e0 (argsL := []) (rest := []) (W := 0) rfl rfl pd_9 rfl (Nat.le_of_eq rfl) rfl (by decide) (by decide) (by decide) (by decide) d10_2 rfl ?_
  intro T101 v101 L101 X101 q101
  obtain ⟨b_101, kb_101, rfl, N101q, K101, B101_0, P101_0⟩ := q101
  have N101 := Fr.app N0 N101q
  have n_b_101 : Z.heap.size ≤ b_101 := Nat.le_trans O0.1 B101_0
  have z_b_101 : h0.size ≤ b_101 := Nat.le_trans (Nat.le_refl _) B101_0
  refine Go.astoreN (Ls' := #[.val (.ref s2), .val .null, .val (.ref b_101), .unset, .unset, .unset]) (pc' := 6) C X101 d10_5 rfl rfl rfl ?_
  refine Go.aloadN (pc' := 7) C X101 d10_6 rfl rfl rfl ?_
  refine Go.alen (z := (2 : Int32)) (pc' := 8) C X101 rfl P101_0 rfl d10_7 rfl ?_
  refine Go.istoreN (Ls' := #[.val (.ref s2), .val .null, .val (.ref b_101), .val (.int (2 : Int32)), .unset, .unset]) (pc' := 9) C X101 d10_8 rfl rfl ?_
  refine Go.iconst (z := (0 : Int32)) (pc' := 10) C X101 d10_9 rfl rfl ?_
  refine Go.istore (Ls' := #[.val (.ref s2), .val .null, .val (.ref b_101), .val (.int (2 : Int32)), .val (.int (0 : Int32)), .unset]) (pc' := 12) C X101 d10_10 rfl rfl ?_
  refine Go.iload (pc' := 14) C X101 d10_12 rfl rfl ?_
  refine Go.iloadN (pc' := 15) C X101 d10_14 rfl rfl ?_
  refine Go.icmpNo (pc' := 18) C X101 d10_15 (tlt (x := (0 : Int32)) (y := (2 : Int32)) (by decide)).2.1 rfl ?_
  refine Go.aloadN (pc' := 19) C X101 d10_18 rfl rfl rfl ?_
  refine Go.iload (pc' := 21) C X101 d10_19 rfl rfl ?_
  refine Go.ldR (i := 0) (v := (.ref le0)) (pc' := 22) C X101 rfl P101_0 (by decide) (by decide) rfl rfl d10_21 rfl ?_
  refine Go.astore (Ls' := #[.val (.ref s2), .val .null, .val (.ref b_101), .val (.int (2 : Int32)), .val (.int (0 : Int32)), .val (.ref le0)]) (pc' := 24) C X101 d10_22 rfl rfl rfl ?_
  refine Go.aload (pc' := 26) C X101 d10_24 rfl rfl rfl ?_
  have O104 : Ext Z.heap T101.heap := (Ext.keep O0 K101 all0)
  refine Go.getF (pc' := 29) (host := "") C X101 (Or.inl (tw hw 70 rfl)) Via.refl rfl (Tle.ext O104) d10_26 rfl ?_
  intro T103 X103 e103
  refine Go.aloadN (pc' := 30) C X103 d10_29 rfl rfl rfl ?_
  have c106 : Exa Z T101.heap s2 "java/lang/String" := (Exa.keep E2 K101)
  have c107 : Fld Z T101.heap s2 "java/lang/String" "coder" "B" (.int (1 : Int32)) := (Fld.keep C2 K101 nin0)
  refine Go.callV (y := mN10) (z := mN10) (a := tle) (pc' := 33) C X103 (tw hw 72 rfl) (tw hw 39 rfl) (notFace_at C.2.1 (tw hw 41 rfl)) (tw hw 41 rfl) (tw hw 40 rfl) (Exa.ext O104 le_0) (by decide) (rm_eqC l Z a0 hw tle s2 cP T101.heap O104 SC (Exa.ext O104 le_0) (le_2.ext O104) c106 c107 n1 hP) (tw hw 42 rfl) (tw hw 3 rfl) e103 (argsL := [(.ref s2)]) (rest := []) (W := 0) rfl rfl pd_10 rfl (Nat.le_of_eq rfl) rfl (by decide) (by decide) (by decide) (by decide) d10_30 rfl ?_
  intro T105 v105 L105 X105 q105
  obtain ⟨rfl, rfl, e105⟩ := q105
  have N105 := Fr.app N101 (Fr.nil _)
  refine Go.ifYes (pc' := 42) C X105 d10_33 ((if0 _ _).trans (teq (x := (0 : Int32)) (y := (0 : Int32)) (by decide)).1) (by decide) (by decide) ?_
  refine Go.iinc (Ls' := #[.val (.ref s2), .val .null, .val (.ref b_101), .val (.int (2 : Int32)), .val (.int ((0 : Int32) + (1 : Int32))), .val (.ref le0)]) (z := (1 : Int32)) (pc' := 45) C X105 d10_42 rfl rfl rfl rfl ?_
  rw [show ((0 : Int32) + (1 : Int32)) = (1 : Int32) from by decide]
  refine Go.goto (pc' := 12) C X105 d10_45 (by decide) (by decide) ?_
  refine Go.iload (pc' := 14) C X105 d10_12 rfl rfl ?_
  refine Go.iloadN (pc' := 15) C X105 d10_14 rfl rfl ?_
  refine Go.icmpNo (pc' := 18) C X105 d10_15 (tlt (x := (1 : Int32)) (y := (2 : Int32)) (by decide)).2.1 rfl ?_
  refine Go.aloadN (pc' := 19) C X105 d10_18 rfl rfl rfl ?_
  refine Go.iload (pc' := 21) C X105 d10_19 rfl rfl ?_
  refine Go.ldR (i := 1) (v := (.ref da0)) (pc' := 22) C X105 e105 P101_0 (by decide) (by decide) rfl rfl d10_21 rfl ?_
  refine Go.astore (Ls' := #[.val (.ref s2), .val .null, .val (.ref b_101), .val (.int (2 : Int32)), .val (.int (1 : Int32)), .val (.ref da0)]) (pc' := 24) C X105 d10_22 rfl rfl rfl ?_
  refine Go.aload (pc' := 26) C X105 d10_24 rfl rfl rfl ?_
  refine Go.getF (pc' := 29) (host := "") C X105 (Or.inl (tw hw 70 rfl)) Via.refl e105 (Tda.ext O104) d10_26 rfl ?_
  intro T110 X110 e110
  refine Go.aloadN (pc' := 30) C X110 d10_29 rfl rfl rfl ?_
  refine Go.callV (y := mN10) (z := mN10) (a := tda) (pc' := 33) C X110 (tw hw 72 rfl) (tw hw 39 rfl) (notFace_at C.2.1 (tw hw 41 rfl)) (tw hw 41 rfl) (tw hw 40 rfl) (Exa.ext O104 da_0) (by decide) (rm_eqC l Z a0 hw tda s2 cP T101.heap O104 SC (Exa.ext O104 da_0) (da_2.ext O104) c106 c107 n2 hP) (tw hw 42 rfl) (tw hw 3 rfl) e110 (argsL := [(.ref s2)]) (rest := []) (W := 0) rfl rfl pd_10 rfl (Nat.le_of_eq rfl) rfl (by decide) (by decide) (by decide) (by decide) d10_30 rfl ?_
  intro T111 v111 L111 X111 q111
  obtain ⟨rfl, rfl, e111⟩ := q111
  have N111 := Fr.app N105 (Fr.nil _)
  refine Go.ifYes (pc' := 42) C X111 d10_33 ((if0 _ _).trans (teq (x := (0 : Int32)) (y := (0 : Int32)) (by decide)).1) (by decide) (by decide) ?_
  refine Go.iinc (Ls' := #[.val (.ref s2), .val .null, .val (.ref b_101), .val (.int (2 : Int32)), .val (.int ((1 : Int32) + (1 : Int32))), .val (.ref da0)]) (z := (1 : Int32)) (pc' := 45) C X111 d10_42 rfl rfl rfl rfl ?_
  rw [show ((1 : Int32) + (1 : Int32)) = (2 : Int32) from by decide]
  refine Go.goto (pc' := 12) C X111 d10_45 (by decide) (by decide) ?_
  refine Go.iload (pc' := 14) C X111 d10_12 rfl rfl ?_
  refine Go.iloadN (pc' := 15) C X111 d10_14 rfl rfl ?_
  refine Go.icmpYes (pc' := 48) C X111 d10_15 (flt (x := (2 : Int32)) (y := (2 : Int32)) (by decide)).2.1 (by decide) (by decide) ?_
  refine Go.aloadN (pc' := 49) C X111 d10_48 rfl rfl rfl ?_
  have K114 : Keep h0 T101.heap [] := ((Keep.refl h0 []).trans K101 all0)
  exact Go.retA C X111 rfl d10_49 rfl rfl rfl (by rw [e111]; exact ⟨rfl, N111, K114⟩) (by decide) (by decide)
def Q_nmNno (Z : State) (va : Addr) (vk : ClassId) (le0 : Addr) (tle : Addr) (lev : Addr) (lek : ClassId) (da0 : Addr) (tda : Addr) (dav : Addr) (dak : ClassId) (h0 : Heap) (rv : Option Value) (h : Heap) (L : List Loc) : Prop := rv = some .null ∧ Fr Z.heap.size L ∧ Keep h0 h []
theorem rm_nmNno (l : Launch) (Z : State) (a0 : Array Value) (hw : ∀ d ∈ tables_1, d.before a0 Z = true) (va : Addr) (vk : ClassId) (le0 : Addr) (tle : Addr) (lev : Addr) (lek : ClassId) (da0 : Addr) (tda : Addr) (dav : Addr) (dak : ClassId) (h0 : Heap) (O0 : Ext Z.heap h0) (SV : Sta Z Z.heap "com/example/bailiwick/bailiwick/Source" "$VALUES" "[Lcom/example/bailiwick/bailiwick/Source;" (.ref va)) (Ev : Exa Z Z.heap va "[Lcom/example/bailiwick/bailiwick/Source;") (Av : AL Z Z.heap va vk (.object "com/example/bailiwick/bailiwick/Source") [(.ref le0), (.ref da0)]) (Tle : Fld Z Z.heap le0 "com/example/bailiwick/bailiwick/Source" "text" "Ljava/lang/String;" (.ref tle)) (le_0 : Exa Z Z.heap tle "java/lang/String") (le_1 : Fld Z Z.heap tle "java/lang/String" "value" "[B" (.ref lev)) (le_2 : Fld Z Z.heap tle "java/lang/String" "coder" "B" (.int (0 : Int32))) (le_3 : AL Z Z.heap lev lek .byte (by8 leL)) (Tda : Fld Z Z.heap da0 "com/example/bailiwick/bailiwick/Source" "text" "Ljava/lang/String;" (.ref tda)) (da_0 : Exa Z Z.heap tda "java/lang/String") (da_1 : Fld Z Z.heap tda "java/lang/String" "value" "[B" (.ref dav)) (da_2 : Fld Z Z.heap tda "java/lang/String" "coder" "B" (.int (0 : Int32))) (da_3 : AL Z Z.heap dav dak .byte (by8 daL)) :
    Met1 l Z mN0 prog_38_method_4_code 6 (some (.object "com/example/bailiwick/bailiwick/Source")) ({ frames := 2, cells := 1, slots := 2, locals := 25 } : Room) #[.null] h0 (Q_nmNno Z va vk le0 tle lev lek da0 tda dav dak h0) := by
  refine Met1.of_body (Ls := #[.val .null, .unset, .unset, .unset, .unset, .unset]) pf_10 (fun m => by first | (simp [entryFrame, mkF, argsToLocals, Value.category]; done) | rfl) ?_
  intro p e s m below meth c T0 C X0 e0
  have N0 : Fr Z.heap.size [] := Fr.nil _
  refine Go.aconstNull (pc' := 1) C X0 d10_0 rfl ?_
  refine Go.astoreN (Ls' := #[.val .null, .val .null, .unset, .unset, .unset, .unset]) (pc' := 2) C X0 d10_1 rfl rfl rfl ?_
  refine Go.callS (y := mN1) (pc' := 5) C X0 (tw hw 54 rfl) (tw hw 55 rfl) (by decide) (rm_vals l Z a0 hw va vk le0 da0 h0 O0 SV Ev Av) (tw hw 56 rfl) (tw hw 49 rfl) e0 (argsL := []) (rest := []) (W := 0) rfl rfl pd_9 rfl (Nat.le_of_eq rfl) rfl (by decide) (by decide) (by decide) (by decide) d10_2 rfl ?_
  intro T101 v101 L101 X101 q101
  obtain ⟨b_101, kb_101, rfl, N101q, K101, B101_0, P101_0⟩ := q101
  have N101 := Fr.app N0 N101q
  have n_b_101 : Z.heap.size ≤ b_101 := Nat.le_trans O0.1 B101_0
  have z_b_101 : h0.size ≤ b_101 := Nat.le_trans (Nat.le_refl _) B101_0
  refine Go.astoreN (Ls' := #[.val .null, .val .null, .val (.ref b_101), .unset, .unset, .unset]) (pc' := 6) C X101 d10_5 rfl rfl rfl ?_
  refine Go.aloadN (pc' := 7) C X101 d10_6 rfl rfl rfl ?_
  refine Go.alen (z := (2 : Int32)) (pc' := 8) C X101 rfl P101_0 rfl d10_7 rfl ?_
  refine Go.istoreN (Ls' := #[.val .null, .val .null, .val (.ref b_101), .val (.int (2 : Int32)), .unset, .unset]) (pc' := 9) C X101 d10_8 rfl rfl ?_
  refine Go.iconst (z := (0 : Int32)) (pc' := 10) C X101 d10_9 rfl rfl ?_
  refine Go.istore (Ls' := #[.val .null, .val .null, .val (.ref b_101), .val (.int (2 : Int32)), .val (.int (0 : Int32)), .unset]) (pc' := 12) C X101 d10_10 rfl rfl ?_
  refine Go.iload (pc' := 14) C X101 d10_12 rfl rfl ?_
  refine Go.iloadN (pc' := 15) C X101 d10_14 rfl rfl ?_
  refine Go.icmpNo (pc' := 18) C X101 d10_15 (tlt (x := (0 : Int32)) (y := (2 : Int32)) (by decide)).2.1 rfl ?_
  refine Go.aloadN (pc' := 19) C X101 d10_18 rfl rfl rfl ?_
  refine Go.iload (pc' := 21) C X101 d10_19 rfl rfl ?_
  refine Go.ldR (i := 0) (v := (.ref le0)) (pc' := 22) C X101 rfl P101_0 (by decide) (by decide) rfl rfl d10_21 rfl ?_
  refine Go.astore (Ls' := #[.val .null, .val .null, .val (.ref b_101), .val (.int (2 : Int32)), .val (.int (0 : Int32)), .val (.ref le0)]) (pc' := 24) C X101 d10_22 rfl rfl rfl ?_
  refine Go.aload (pc' := 26) C X101 d10_24 rfl rfl rfl ?_
  have O104 : Ext Z.heap T101.heap := (Ext.keep O0 K101 all0)
  refine Go.getF (pc' := 29) (host := "") C X101 (Or.inl (tw hw 70 rfl)) Via.refl rfl (Tle.ext O104) d10_26 rfl ?_
  intro T103 X103 e103
  refine Go.aloadN (pc' := 30) C X103 d10_29 rfl rfl rfl ?_
  refine Go.callV (y := mN10) (z := mN10) (a := tle) (pc' := 33) C X103 (tw hw 72 rfl) (tw hw 39 rfl) (notFace_at C.2.1 (tw hw 41 rfl)) (tw hw 41 rfl) (tw hw 40 rfl) (Exa.ext O104 le_0) (by decide) (rm_eqNull l Z a0 hw tle T101.heap O104 ) (tw hw 42 rfl) (tw hw 3 rfl) e103 (argsL := [.null]) (rest := []) (W := 0) rfl rfl pd_10 rfl (Nat.le_of_eq rfl) rfl (by decide) (by decide) (by decide) (by decide) d10_30 rfl ?_
  intro T105 v105 L105 X105 q105
  obtain ⟨rfl, rfl, e105⟩ := q105
  have N105 := Fr.app N101 (Fr.nil _)
  refine Go.ifYes (pc' := 42) C X105 d10_33 ((if0 _ _).trans (teq (x := (0 : Int32)) (y := (0 : Int32)) (by decide)).1) (by decide) (by decide) ?_
  refine Go.iinc (Ls' := #[.val .null, .val .null, .val (.ref b_101), .val (.int (2 : Int32)), .val (.int ((0 : Int32) + (1 : Int32))), .val (.ref le0)]) (z := (1 : Int32)) (pc' := 45) C X105 d10_42 rfl rfl rfl rfl ?_
  rw [show ((0 : Int32) + (1 : Int32)) = (1 : Int32) from by decide]
  refine Go.goto (pc' := 12) C X105 d10_45 (by decide) (by decide) ?_
  refine Go.iload (pc' := 14) C X105 d10_12 rfl rfl ?_
  refine Go.iloadN (pc' := 15) C X105 d10_14 rfl rfl ?_
  refine Go.icmpNo (pc' := 18) C X105 d10_15 (tlt (x := (1 : Int32)) (y := (2 : Int32)) (by decide)).2.1 rfl ?_
  refine Go.aloadN (pc' := 19) C X105 d10_18 rfl rfl rfl ?_
  refine Go.iload (pc' := 21) C X105 d10_19 rfl rfl ?_
  refine Go.ldR (i := 1) (v := (.ref da0)) (pc' := 22) C X105 e105 P101_0 (by decide) (by decide) rfl rfl d10_21 rfl ?_
  refine Go.astore (Ls' := #[.val .null, .val .null, .val (.ref b_101), .val (.int (2 : Int32)), .val (.int (1 : Int32)), .val (.ref da0)]) (pc' := 24) C X105 d10_22 rfl rfl rfl ?_
  refine Go.aload (pc' := 26) C X105 d10_24 rfl rfl rfl ?_
  refine Go.getF (pc' := 29) (host := "") C X105 (Or.inl (tw hw 70 rfl)) Via.refl e105 (Tda.ext O104) d10_26 rfl ?_
  intro T108 X108 e108
  refine Go.aloadN (pc' := 30) C X108 d10_29 rfl rfl rfl ?_
  refine Go.callV (y := mN10) (z := mN10) (a := tda) (pc' := 33) C X108 (tw hw 72 rfl) (tw hw 39 rfl) (notFace_at C.2.1 (tw hw 41 rfl)) (tw hw 41 rfl) (tw hw 40 rfl) (Exa.ext O104 da_0) (by decide) (rm_eqNull l Z a0 hw tda T101.heap O104 ) (tw hw 42 rfl) (tw hw 3 rfl) e108 (argsL := [.null]) (rest := []) (W := 0) rfl rfl pd_10 rfl (Nat.le_of_eq rfl) rfl (by decide) (by decide) (by decide) (by decide) d10_30 rfl ?_
  intro T109 v109 L109 X109 q109
  obtain ⟨rfl, rfl, e109⟩ := q109
  have N109 := Fr.app N105 (Fr.nil _)
  refine Go.ifYes (pc' := 42) C X109 d10_33 ((if0 _ _).trans (teq (x := (0 : Int32)) (y := (0 : Int32)) (by decide)).1) (by decide) (by decide) ?_
  refine Go.iinc (Ls' := #[.val .null, .val .null, .val (.ref b_101), .val (.int (2 : Int32)), .val (.int ((1 : Int32) + (1 : Int32))), .val (.ref da0)]) (z := (1 : Int32)) (pc' := 45) C X109 d10_42 rfl rfl rfl rfl ?_
  rw [show ((1 : Int32) + (1 : Int32)) = (2 : Int32) from by decide]
  refine Go.goto (pc' := 12) C X109 d10_45 (by decide) (by decide) ?_
  refine Go.iload (pc' := 14) C X109 d10_12 rfl rfl ?_
  refine Go.iloadN (pc' := 15) C X109 d10_14 rfl rfl ?_
  refine Go.icmpYes (pc' := 48) C X109 d10_15 (flt (x := (2 : Int32)) (y := (2 : Int32)) (by decide)).2.1 (by decide) (by decide) ?_
  refine Go.aloadN (pc' := 49) C X109 d10_48 rfl rfl rfl ?_
  have K112 : Keep h0 T101.heap [] := ((Keep.refl h0 []).trans K101 all0)
  exact Go.retA C X109 rfl d10_49 rfl rfl rfl (by rw [e109]; exact ⟨rfl, N109, K112⟩) (by decide) (by decide)
theorem pd_11 : parseMethodDescriptor "()[C" = some ⟨[], some (.array .char)⟩ := by decide +kernel
theorem pd_12 : parseMethodDescriptor "([C)V" = some ⟨[(.array .char)], none⟩ := by decide +kernel
theorem pd_13 : parseMethodDescriptor "(Ljava/lang/String;)Lcom/example/bailiwick/bailiwick/Source;" = some ⟨[(.object "java/lang/String")], some (.object "com/example/bailiwick/bailiwick/Source")⟩ := by decide +kernel
theorem pd_14 : parseMethodDescriptor "(C)[C" = some ⟨[.char], some (.array .char)⟩ := by decide +kernel
theorem pf_0 : plainFor x = true := plainFor_of_name (by first | (simp [plainName, overriddenIn, x]; done) | decide +kernel)
def Q_law (Z : State) (p1 : Int32) (p2 : Int32) (p3 : Int32) (p4 : Int32) (p5 : Int32) (p6 : Int32) (cP : Int32) (va : Addr) (vk : ClassId) (le0 : Addr) (tle : Addr) (lev : Addr) (lek : ClassId) (da0 : Addr) (tda : Addr) (dav : Addr) (dak : ClassId) (h0 : Heap) (rv : Option Value) (h : Heap) (L : List Loc) : Prop := rv = some (.int (1 : Int32)) ∧ Fr Z.heap.size L ∧ Keep h0 h []
theorem rm_law (l : Launch) (Z : State) (a0 : Array Value) (hw : ∀ d ∈ tables_1, d.before a0 Z = true) (p1 : Int32) (p2 : Int32) (p3 : Int32) (p4 : Int32) (p5 : Int32) (p6 : Int32) (cP : Int32) (va : Addr) (vk : ClassId) (le0 : Addr) (tle : Addr) (lev : Addr) (lek : ClassId) (da0 : Addr) (tda : Addr) (dav : Addr) (dak : ClassId) (h0 : Heap) (O0 : Ext Z.heap h0) (SC : Sta Z Z.heap "java/lang/String" "COMPACT_STRINGS" "Z" (.int cP)) (SH : Sta Z Z.heap "java/lang/StringUTF16" "HI_BYTE_SHIFT" "I" (.int (0 : Int32))) (SLo : Sta Z Z.heap "java/lang/StringUTF16" "LO_BYTE_SHIFT" "I" (.int (8 : Int32))) (SAd : Sta Z Z.heap "java/lang/StringUTF16" "$assertionsDisabled" "Z" (.int (1 : Int32))) (SV : Sta Z Z.heap "com/example/bailiwick/bailiwick/Source" "$VALUES" "[Lcom/example/bailiwick/bailiwick/Source;" (.ref va)) (Ev : Exa Z Z.heap va "[Lcom/example/bailiwick/bailiwick/Source;") (Av : AL Z Z.heap va vk (.object "com/example/bailiwick/bailiwick/Source") [(.ref le0), (.ref da0)]) (Tle : Fld Z Z.heap le0 "com/example/bailiwick/bailiwick/Source" "text" "Ljava/lang/String;" (.ref tle)) (le_0 : Exa Z Z.heap tle "java/lang/String") (le_1 : Fld Z Z.heap tle "java/lang/String" "value" "[B" (.ref lev)) (le_2 : Fld Z Z.heap tle "java/lang/String" "coder" "B" (.int (0 : Int32))) (le_3 : AL Z Z.heap lev lek .byte (by8 leL)) (Tda : Fld Z Z.heap da0 "com/example/bailiwick/bailiwick/Source" "text" "Ljava/lang/String;" (.ref tda)) (da_0 : Exa Z Z.heap tda "java/lang/String") (da_1 : Fld Z Z.heap tda "java/lang/String" "value" "[B" (.ref dav)) (da_2 : Fld Z Z.heap tda "java/lang/String" "coder" "B" (.int (0 : Int32))) (da_3 : AL Z Z.heap dav dak .byte (by8 daL)) (Sle : Sta Z Z.heap "com/example/bailiwick/bailiwick/Source" "LAW_ENFORCEMENT" "Lcom/example/bailiwick/bailiwick/Source;" (.ref le0)) (Sda : Sta Z Z.heap "com/example/bailiwick/bailiwick/Source" "DISTRICT_ATTORNEY" "Lcom/example/bailiwick/bailiwick/Source;" (.ref da0)) (hP : ¬ cP = (0 : Int32)) :
    Met1H consts_1 [] l Z x code maxLocals ret room_1 #[(.int p1), (.int p2), (.int p3), (.int p4), (.int p5), (.int p6)] h0 (Q_law Z p1 p2 p3 p4 p5 p6 cP va vk le0 tle lev lek da0 tda dav dak h0) := by
  refine Met1H.of_body (Ls := #[.val (.int p1), .val (.int p2), .val (.int p3), .val (.int p4), .val (.int p5), .val (.int p6), .unset, .unset, .unset, .unset, .unset, .unset]) pf_0 (fun m => by first | (simp [entryFrame, mkF, argsToLocals, Value.category, maxLocals]; done) | rfl) ?_
  intro p e s m below meth c T0 C X0 e0 hH0 hsf0
  have Hr0 := CHr.refl hH0
  have N0 : Fr Z.heap.size [] := Fr.nil _
  have Si0 : Sin s s h0 := Sin.start s h0
  refine Go.iloadN (pc' := 1) C X0 at_0 rfl rfl ?_
  refine Go.iconst (z := (1 : Int32)) (pc' := 2) C X0 at_1 rfl rfl ?_
  refine Go.iand (pc' := 3) C X0 at_2 rfl ?_
  have K11 : ∀ (T101 : State) (L101 : List Loc), Stand p l e room_1 s m #[(.int p1), (.int p2), (.int p3), (.int p4), (.int p5), (.int p6)] below meth c T101 L101 0 0 → T101.heap = h0 → Fr Z.heap.size L101 → ∀ (d6 : Int32), Go p e below (FnH Z consts_1 s h0 room_1.cells room_1.slots (Q_law Z p1 p2 p3 p4 p5 p6 cP va vk le0 tle lev lek da0 tda dav dak h0)) T101 (mkF m 11 #[.val (.int p1), .val (.int p2), .val (.int p3), .val (.int p4), .val (.int p5), .val (.int p6), .unset, .unset, .unset, .unset, .unset, .unset] [(.int d6)]) := by
    intro T101 L101 X101 e101 N101 d6
    refine Go.istore (Ls' := #[.val (.int p1), .val (.int p2), .val (.int p3), .val (.int p4), .val (.int p5), .val (.int p6), .val (.int d6), .unset, .unset, .unset, .unset, .unset]) (pc' := 13) C X101 at_11 rfl rfl ?_
    refine Go.iloadN (pc' := 14) C X101 at_13 rfl rfl ?_
    refine Go.ldcI (pc' := 16) C X101 at_14 (tw hw 0 rfl) rfl ?_
    refine Go.iand (pc' := 17) C X101 at_16 rfl ?_
    refine Go.i2c (pc' := 18) C X101 at_17 rfl ?_
    rw [i16 p4]
    refine Go.istore (Ls' := #[.val (.int p1), .val (.int p2), .val (.int p3), .val (.int p4), .val (.int p5), .val (.int p6), .val (.int d6), .val (.int (p4 &&& (65535 : Int32))), .unset, .unset, .unset, .unset]) (pc' := 20) C X101 at_18 rfl rfl ?_
    refine Go.iloadN (pc' := 21) C X101 at_20 rfl rfl ?_
    refine Go.bipush (z := (7 : Int32)) (pc' := 23) C X101 at_21 rfl rfl ?_
    refine Go.iand (pc' := 24) C X101 at_23 rfl ?_
    refine Go.istore (Ls' := #[.val (.int p1), .val (.int p2), .val (.int p3), .val (.int p4), .val (.int p5), .val (.int p6), .val (.int d6), .val (.int (p4 &&& (65535 : Int32))), .val (.int (p1 &&& (7 : Int32))), .unset, .unset, .unset]) (pc' := 26) C X101 at_24 rfl rfl ?_
    refine Go.iload (pc' := 28) C X101 at_26 rfl rfl ?_
    by_cases hc28_102 : (p1 &&& (7 : Int32)) = (0 : Int32)
    · refine Go.ifNo (pc' := 31) C X101 at_28 ((if0 _ _).trans (teq (x := (p1 &&& (7 : Int32))) (y := (0 : Int32)) hc28_102).2) rfl ?_
      refine Go.newO (pc' := 34) C X101 (tw hw 1 rfl) (tw hw 2 rfl) (tw hw 3 rfl) e101 (by decide) (by decide) at_31 rfl ?_
      intro T103 h103 b103 X103 e103 g103 E103 A103 D103
      have Hr104 := CHr.trans Hr0 (CHr.ext E103 Hr0.1)
      have n_b103 : Z.heap.size ≤ b103 := Nat.le_trans O0.1 (Nat.le_of_eq g103.symm)
      have z_b103 : h0.size ≤ b103 := Nat.le_trans (Nat.le_refl _) (Nat.le_of_eq g103.symm)
      have s_b103 : Safe Z consts_1 s.vm h103 b103 := Safe.ext E103 Hr0.1 (Safe.new (Nat.le_of_eq g103.symm))
      have F103_coder : Fld Z h103 b103 "java/lang/String" "coder" "B" (.int (0 : Int32)) := D103 (Or.inr (tw hw 32 rfl)) (ty := .byte) (by decide)
      have F103_value : Fld Z h103 b103 "java/lang/String" "value" "[B" .null := D103 (Or.inr (tw hw 34 rfl)) (ty := (.array .byte)) (by decide)
      refine Go.dup (pc' := 35) C X103 at_34 rfl rfl ?_
      have O106 : Ext Z.heap h103 := (Ext.trans O0 E103)
      refine Go.callS (y := mN5) (pc' := 38) C X103 (tw hw 4 rfl) (tw hw 5 rfl) (by decide) (rm_ar_le l Z a0 hw  h103 O106 ) (tw hw 7 rfl) (tw hw 6 rfl) e103 (argsL := []) (rest := [(.ref b103), (.ref b103)]) (W := 2) rfl rfl pd_11 rfl (Nat.le_of_eq rfl) rfl (by decide) (by decide) (by decide) (by decide) at_35 rfl ?_
      intro T105 v105 L105 X105 q105
      obtain ⟨a_105, ka_105, rfl, N105q, K105, B105_0, P105_0⟩ := q105
      have N105 := Fr.app N101 N105q
      have Hr107 := CHr.trans Hr104 (CHr.keep K105 all0 Hr104.1)
      have n_a_105 : Z.heap.size ≤ a_105 := Nat.le_trans O106.1 B105_0
      have z_a_105 : h0.size ≤ a_105 := Nat.le_trans (Nat.le_trans (Nat.le_refl _) E103.1) B105_0
      have s_a_105 : Safe Z consts_1 s.vm T105.heap a_105 := Safe.keep K105 all0 Hr104.1 (Safe.new B105_0)
      have hlen : leL.length = 15 := by rfl
      have hAll : ∀ x ∈ leL, 0 ≤ x.toInt ∧ x.toInt ≤ 255 := by decide
      have c109 : Exa Z T105.heap b103 "java/lang/String" := (Exa.keep A103 K105)
      have c110 : Fld Z T105.heap b103 "java/lang/String" "value" "[B" .null := (Fld.keep F103_value K105 nin0)
      have c111 : Fld Z T105.heap b103 "java/lang/String" "coder" "B" (.int (0 : Int32)) := (Fld.keep F103_coder K105 nin0)
      have O112 : Ext Z.heap T105.heap := (Ext.keep O106 K105 all0)
      refine Go.callI (y := mN8) (a := b103) (pc' := 41) C X105 rfl (tw hw 9 rfl) (tw hw 10 rfl) (by decide) (rm_sI1 l Z a0 hw b103 a_105 ka_105 leL cP T105.heap O112 c109 c110 c111 P105_0 SC hAll (by rw [hlen]; decide) (by rw [hlen]; decide) (by rw [hlen]; decide) hP n_b103) (tw hw 11 rfl) (tw hw 3 rfl) rfl (argsL := [(.ref a_105)]) (rest := [(.ref b103)]) (W := 1) rfl rfl pd_12 rfl (Nat.le_of_eq rfl) rfl (by decide) (by decide) (by decide) (by decide) rfl at_38 rfl ?_
      intro T108 v108 L108 X108 q108
      obtain ⟨v_108, kv_108, rfl, N108q, K108, B108_0, P108_0, P108_1, P108_2⟩ := q108
      have N108 := Fr.app N105 N108q
      have sa114 : Safe Z consts_1 s.vm T105.heap b103 := (Safe.keep K105 all0 Hr104.1 s_b103)
      have Hr113 := CHr.trans Hr107 (CHr.keep K108 (allS sa114 all0) Hr107.1)
      have n_v_108 : Z.heap.size ≤ v_108 := Nat.le_trans O112.1 B108_0
      have z_v_108 : h0.size ≤ v_108 := Nat.le_trans (Nat.le_trans (Nat.le_trans (Nat.le_refl _) E103.1) K105.1) B108_0
      have s_v_108 : Safe Z consts_1 s.vm T108.heap v_108 := Safe.keep K108 (allS sa114 all0) Hr107.1 (Safe.new B108_0)
      refine Go.astore (Ls' := #[.val (.int p1), .val (.int p2), .val (.int p3), .val (.int p4), .val (.int p5), .val (.int p6), .val (.int d6), .val (.int (p4 &&& (65535 : Int32))), .val (.int (p1 &&& (7 : Int32))), .val (.ref b103), .unset, .unset]) (pc' := 43) C X108 at_41 rfl rfl rfl ?_
      refine Go.goto (pc' := 266) C X108 at_43 (by decide) (by decide) ?_
      have O116 : Ext Z.heap T108.heap := (Ext.keep O112 K108 (allS n_b103 all0))
      have Si117 : Sin s s T108.heap := Sin.mono Si0 (Nat.le_trans (Nat.le_trans (Nat.le_trans (Nat.le_refl _) E103.1) K105.1) K108.1)
      refine Go.ldcH (pc' := 268) (n := 60) (vs := [(.int (108 : Int32)), (.int (97 : Int32)), (.int (119 : Int32)), (.int (45 : Int32)), (.int (101 : Int32)), (.int (110 : Int32)), (.int (102 : Int32)), (.int (111 : Int32)), (.int (114 : Int32)), (.int (99 : Int32)), (.int (101 : Int32)), (.int (109 : Int32)), (.int (101 : Int32)), (.int (110 : Int32)), (.int (116 : Int32))]) (z := (15 : Int32)) C X108 Si117 (EWc hw) Hr113.1 (tw hw 35 rfl) (wS hw) rfl (by decide) (by decide) (by decide) (by decide) (by decide) (by decide) (by decide) (by decide) at_266 rfl ?_
      intro T115 h115 b115 sC115 v115 k115 C115 X115 e115 Si115 E115 hR115 A115 F115c F115v B115 hne115
      have Hr118 := CHr.trans Hr113 hR115
      have sa119 : Safe Z consts_1 sC115.vm h115 b103 := (CHr.safe hR115 (Nat.lt_of_lt_of_le A103.lt (Nat.le_trans (Nat.le_trans (Nat.le_refl _) K105.1) K108.1)) (Safe.keep K108 (allS sa114 all0) Hr107.1 sa114))
      have hx115_b103 := hne115 b103 sa119
      have ne120 : a_105 ≠ b103 := (Nat.ne_of_gt (Nat.lt_of_lt_of_le A103.lt (Nat.le_trans (Nat.le_refl _) B105_0)))
      have c121 : AL Z h115 a_105 ka_105 .char (ch16 leL) := (AL.ext E115 (AL.keep P105_0 K108 (ninS ne120 nin0)))
      have hx115_a_105 := hne115 a_105 (Safe.al C115.2.1.alike c121 (by decide))
      have sa122 : Safe Z consts_1 sC115.vm h115 v_108 := (CHr.safe hR115 (Nat.lt_of_lt_of_le P108_2.lt (Nat.le_refl _)) s_v_108)
      have hx115_v_108 := hne115 v_108 sa122
      have tx123 : AL Z h115 v115 k115 .byte (by8 leL) := leV ▸ B115
      refine Go.aload (pc' := 270) C115 X115 at_268 rfl rfl rfl ?_
      have c125 : Exa Z h115 b103 "java/lang/String" := (Exa.ext E115 (Exa.keep c109 K108))
      have c126 : Fld Z h115 b103 "java/lang/String" "value" "[B" (.ref v_108) := (Fld.ext E115 P108_0)
      have c127 : Fld Z h115 b103 "java/lang/String" "coder" "B" (.int (0 : Int32)) := (Fld.ext E115 P108_1)
      have c128 : AL Z h115 v_108 kv_108 .byte (by8 leL) := (AL.ext E115 P108_2)
      have O129 : Ext Z.heap h115 := (Ext.trans O116 E115)
      refine Go.callV (y := mN10) (z := mN10) (a := b115) (pc' := 273) C115 X115 (tw hw 38 rfl) (tw hw 39 rfl) (notFace_at C115.2.1 (tw hw 41 rfl)) (tw hw 41 rfl) (tw hw 40 rfl) A115 (by decide) (rm_eqS l Z a0 hw b115 b103 v115 v_108 k115 kv_108 leL leL cP h115 O129 SC A115 F115v F115c tx123 c125 c126 c127 c128 (Ne.symm hx115_b103.1) hP (by rw [hlen]; decide) (by rw [hlen]; decide)) (tw hw 42 rfl) (tw hw 3 rfl) e115 (argsL := [(.ref b103)]) (rest := []) (W := 0) rfl rfl pd_10 rfl (Nat.le_of_eq rfl) rfl (by decide) (by decide) (by decide) (by decide) at_270 rfl ?_
      intro T124 v124 L124 X124 q124
      obtain ⟨rfl, rfl, e124⟩ := q124
      have N124 := Fr.app N108 (Fr.nil _)
      by_cases hc273_130 : (if by8 leL = by8 leL then (1 : Int32) else 0) = (0 : Int32)
      · refine Go.ifYes (pc' := 284) C115 X124 at_273 ((if0 _ _).trans (teq (x := (if by8 leL = by8 leL then (1 : Int32) else 0)) (y := (0 : Int32)) hc273_130).1) (by decide) (by decide) ?_
        refine Go.ldcH (pc' := 286) (n := 68) (vs := [(.int (100 : Int32)), (.int (105 : Int32)), (.int (115 : Int32)), (.int (116 : Int32)), (.int (114 : Int32)), (.int (105 : Int32)), (.int (99 : Int32)), (.int (116 : Int32)), (.int (45 : Int32)), (.int (97 : Int32)), (.int (116 : Int32)), (.int (116 : Int32)), (.int (111 : Int32)), (.int (114 : Int32)), (.int (110 : Int32)), (.int (101 : Int32)), (.int (121 : Int32))]) (z := (17 : Int32)) C115 X124 Si115 (EWc hw) Hr118.1 (tw hw 76 rfl) (wS hw) e124 (by decide) (by decide) (by decide) (by decide) (by decide) (by decide) (by decide) (by decide) at_284 rfl ?_
        intro T131 h131 b131 sC131 v131 k131 C131 X131 e131 Si131 E131 hR131 A131 F131c F131v B131 hne131
        have Hr132 := CHr.trans Hr118 hR131
        have sa133 : Safe Z consts_1 sC131.vm h131 b103 := (CHr.safe hR131 (Nat.lt_of_lt_of_le A103.lt (Nat.le_trans (Nat.le_trans (Nat.le_trans (Nat.le_refl _) K105.1) K108.1) E115.1)) sa119)
        have hx131_b103 := hne131 b103 sa133
        have c134 : AL Z h131 a_105 ka_105 .char (ch16 leL) := (AL.ext E131 c121)
        have hx131_a_105 := hne131 a_105 (Safe.al C131.2.1.alike c134 (by decide))
        have sa135 : Safe Z consts_1 sC131.vm h131 v_108 := (CHr.safe hR131 (Nat.lt_of_lt_of_le P108_2.lt (Nat.le_trans (Nat.le_refl _) E115.1)) sa122)
        have hx131_v_108 := hne131 v_108 sa135
        have tx136 : AL Z h131 v131 k131 .byte (by8 daL) := daV ▸ B131
        refine Go.aload (pc' := 288) C131 X131 at_286 rfl rfl rfl ?_
        have c138 : Exa Z h131 b103 "java/lang/String" := (Exa.ext E131 c125)
        have c139 : Fld Z h131 b103 "java/lang/String" "value" "[B" (.ref v_108) := (Fld.ext E131 c126)
        have c140 : Fld Z h131 b103 "java/lang/String" "coder" "B" (.int (0 : Int32)) := (Fld.ext E131 c127)
        have c141 : AL Z h131 v_108 kv_108 .byte (by8 leL) := (AL.ext E131 c128)
        have O142 : Ext Z.heap h131 := (Ext.trans O129 E131)
        refine Go.callV (y := mN10) (z := mN10) (a := b131) (pc' := 291) C131 X131 (tw hw 38 rfl) (tw hw 39 rfl) (notFace_at C131.2.1 (tw hw 41 rfl)) (tw hw 41 rfl) (tw hw 40 rfl) A131 (by decide) (rm_eqS l Z a0 hw b131 b103 v131 v_108 k131 kv_108 daL leL cP h131 O142 SC A131 F131v F131c tx136 c138 c139 c140 c141 (Ne.symm hx131_b103.1) hP (by decide) (by rw [hlen]; decide)) (tw hw 42 rfl) (tw hw 3 rfl) e131 (argsL := [(.ref b103)]) (rest := []) (W := 0) rfl rfl pd_10 rfl (Nat.le_of_eq rfl) rfl (by decide) (by decide) (by decide) (by decide) at_288 rfl ?_
        intro T137 v137 L137 X137 q137
        obtain ⟨rfl, rfl, e137⟩ := q137
        have N137 := Fr.app N124 (Fr.nil _)
        by_cases hc291_143 : (if by8 daL = by8 leL then (1 : Int32) else 0) = (0 : Int32)
        · refine Go.ifYes (pc' := 302) C131 X137 at_291 ((if0 _ _).trans (teq (x := (if by8 daL = by8 leL then (1 : Int32) else 0)) (y := (0 : Int32)) hc291_143).1) (by decide) (by decide) ?_
          refine Go.aconstNull (pc' := 303) C131 X137 at_302 rfl ?_
          refine Go.astore (Ls' := #[.val (.int p1), .val (.int p2), .val (.int p3), .val (.int p4), .val (.int p5), .val (.int p6), .val (.int d6), .val (.int (p4 &&& (65535 : Int32))), .val (.int (p1 &&& (7 : Int32))), .val (.ref b103), .val .null, .unset]) (pc' := 305) C131 X137 at_303 rfl rfl rfl ?_
          refine Go.aload (pc' := 307) C131 X137 at_305 rfl rfl rfl ?_
          have ne145 : tle ≠ b103 := Nat.ne_of_lt (Nat.lt_of_lt_of_le (Nat.lt_of_lt_of_le le_0.lt O0.1) (Nat.le_trans (Nat.le_refl _) (Nat.le_of_eq g103.symm)))
          have ne146 : tda ≠ b103 := Nat.ne_of_lt (Nat.lt_of_lt_of_le (Nat.lt_of_lt_of_le da_0.lt O0.1) (Nat.le_trans (Nat.le_refl _) (Nat.le_of_eq g103.symm)))
          refine Go.callS (y := mN0) (pc' := 310) C131 X137 (tw hw 51 rfl) (tw hw 52 rfl) (by decide) (rm_nmLno l Z a0 hw va vk le0 tle lev lek da0 tda dav dak b103 cP v_108 kv_108 leL h131 O142 SV Ev Av Tle le_0 le_1 le_2 le_3 Tda da_0 da_1 da_2 da_3 c138 c139 c140 c141 SC hP ne145 ne146 (by rw [hlen]; decide) (own_ifz hc273_130) (own_ifz hc291_143)) (tw hw 53 rfl) (tw hw 49 rfl) e137 (argsL := [(.ref b103)]) (rest := []) (W := 0) rfl rfl pd_13 rfl (Nat.le_of_eq rfl) rfl (by decide) (by decide) (by decide) (by decide) at_307 rfl ?_
          intro T144 v144 L144 X144 q144
          obtain ⟨rfl, N144q, K144⟩ := q144
          have N144 := Fr.app N137 N144q
          have Hr147 := CHr.trans Hr132 (CHr.keep K144 all0 Hr132.1)
          refine Go.aload (pc' := 312) C131 X144 at_310 rfl rfl rfl ?_
          refine Go.acmpNo (pc' := 315) C131 X144 at_312 rfl rfl (XT.aa_ne_f rfl) rfl ?_
          refine Go.iconst (z := (1 : Int32)) (pc' := 316) C131 X144 at_315 rfl rfl ?_
          refine Go.goto (pc' := 320) C131 X144 at_316 (by decide) (by decide) ?_
          have K148 : Keep h0 T144.heap [] := (((((((Keep.refl h0 []).ext E103).trans K105 all0).trans K108 (allS (Or.inr z_b103) all0)).ext E115).ext E131).trans K144 all0)
          have Si149 : Sin s sC131 T144.heap := Sin.mono Si131 (Nat.le_trans (Nat.le_refl _) K144.1)
          exact Go.retNH C131 X144 Si149 (EWc hw) Hr147 rfl at_320 (by simp) ⟨rfl, N144, K148⟩ (by decide) (by decide)
        · refine Go.ifNo (pc' := 294) C131 X137 at_291 ((if0 _ _).trans (feq (x := (if by8 daL = by8 leL then (1 : Int32) else 0)) (y := (0 : Int32)) hc291_143).1) rfl ?_
          refine Go.getS (pc' := 297) (host := "") C131 X137 (Or.inl (tw hw 110 rfl)) Via.refl e137 (Sda.ext O142) at_294 rfl ?_
          intro T150 X150 e150
          refine Go.astore (Ls' := #[.val (.int p1), .val (.int p2), .val (.int p3), .val (.int p4), .val (.int p5), .val (.int p6), .val (.int d6), .val (.int (p4 &&& (65535 : Int32))), .val (.int (p1 &&& (7 : Int32))), .val (.ref b103), .val (.ref da0), .unset]) (pc' := 299) C131 X150 at_297 rfl rfl rfl ?_
          refine Go.goto (pc' := 305) C131 X150 at_299 (by decide) (by decide) ?_
          refine Go.aload (pc' := 307) C131 X150 at_305 rfl rfl rfl ?_
          have ne152 : tle ≠ b103 := Nat.ne_of_lt (Nat.lt_of_lt_of_le (Nat.lt_of_lt_of_le le_0.lt O0.1) (Nat.le_trans (Nat.le_refl _) (Nat.le_of_eq g103.symm)))
          have ne153 : tda ≠ b103 := Nat.ne_of_lt (Nat.lt_of_lt_of_le (Nat.lt_of_lt_of_le da_0.lt O0.1) (Nat.le_trans (Nat.le_refl _) (Nat.le_of_eq g103.symm)))
          refine Go.callS (y := mN0) (pc' := 310) C131 X150 (tw hw 51 rfl) (tw hw 52 rfl) (by decide) (rm_nmLda l Z a0 hw va vk le0 tle lev lek da0 tda dav dak b103 cP v_108 kv_108 leL h131 O142 SV Ev Av Tle le_0 le_1 le_2 le_3 Tda da_0 da_1 da_2 da_3 c138 c139 c140 c141 SC hP ne152 ne153 (by rw [hlen]; decide) (own_ifz hc273_130) (own_ifn hc291_143)) (tw hw 53 rfl) (tw hw 49 rfl) e150 (argsL := [(.ref b103)]) (rest := []) (W := 0) rfl rfl pd_13 rfl (Nat.le_of_eq rfl) rfl (by decide) (by decide) (by decide) (by decide) at_307 rfl ?_
          intro T151 v151 L151 X151 q151
          obtain ⟨rfl, N151q, K151⟩ := q151
          have N151 := Fr.app N137 N151q
          have Hr154 := CHr.trans Hr132 (CHr.keep K151 all0 Hr132.1)
          refine Go.aload (pc' := 312) C131 X151 at_310 rfl rfl rfl ?_
          refine Go.acmpNo (pc' := 315) C131 X151 at_312 rfl rfl (XT.aa_ne_f rfl) rfl ?_
          refine Go.iconst (z := (1 : Int32)) (pc' := 316) C131 X151 at_315 rfl rfl ?_
          refine Go.goto (pc' := 320) C131 X151 at_316 (by decide) (by decide) ?_
          have K155 : Keep h0 T151.heap [] := (((((((Keep.refl h0 []).ext E103).trans K105 all0).trans K108 (allS (Or.inr z_b103) all0)).ext E115).ext E131).trans K151 all0)
          have Si156 : Sin s sC131 T151.heap := Sin.mono Si131 (Nat.le_trans (Nat.le_refl _) K151.1)
          exact Go.retNH C131 X151 Si156 (EWc hw) Hr154 rfl at_320 (by simp) ⟨rfl, N151, K155⟩ (by decide) (by decide)
      · refine Go.ifNo (pc' := 276) C115 X124 at_273 ((if0 _ _).trans (feq (x := (if by8 leL = by8 leL then (1 : Int32) else 0)) (y := (0 : Int32)) hc273_130).1) rfl ?_
        refine Go.getS (pc' := 279) (host := "") C115 X124 (Or.inl (tw hw 48 rfl)) Via.refl e124 (Sle.ext O129) at_276 rfl ?_
        intro T157 X157 e157
        refine Go.astore (Ls' := #[.val (.int p1), .val (.int p2), .val (.int p3), .val (.int p4), .val (.int p5), .val (.int p6), .val (.int d6), .val (.int (p4 &&& (65535 : Int32))), .val (.int (p1 &&& (7 : Int32))), .val (.ref b103), .val (.ref le0), .unset]) (pc' := 281) C115 X157 at_279 rfl rfl rfl ?_
        refine Go.goto (pc' := 305) C115 X157 at_281 (by decide) (by decide) ?_
        refine Go.aload (pc' := 307) C115 X157 at_305 rfl rfl rfl ?_
        have ne159 : tle ≠ b103 := Nat.ne_of_lt (Nat.lt_of_lt_of_le (Nat.lt_of_lt_of_le le_0.lt O0.1) (Nat.le_trans (Nat.le_refl _) (Nat.le_of_eq g103.symm)))
        have ne160 : tda ≠ b103 := Nat.ne_of_lt (Nat.lt_of_lt_of_le (Nat.lt_of_lt_of_le da_0.lt O0.1) (Nat.le_trans (Nat.le_refl _) (Nat.le_of_eq g103.symm)))
        refine Go.callS (y := mN0) (pc' := 310) C115 X157 (tw hw 51 rfl) (tw hw 52 rfl) (by decide) (rm_nmLle l Z a0 hw va vk le0 tle lev lek da0 tda dav dak b103 cP v_108 kv_108 leL h115 O129 SV Ev Av Tle le_0 le_1 le_2 le_3 Tda da_0 da_1 da_2 da_3 c125 c126 c127 c128 SC hP ne159 ne160 (by rw [hlen]; decide) rfl) (tw hw 53 rfl) (tw hw 49 rfl) e157 (argsL := [(.ref b103)]) (rest := []) (W := 0) rfl rfl pd_13 rfl (Nat.le_of_eq rfl) rfl (by decide) (by decide) (by decide) (by decide) at_307 rfl ?_
        intro T158 v158 L158 X158 q158
        obtain ⟨rfl, N158q, K158⟩ := q158
        have N158 := Fr.app N124 N158q
        have Hr161 := CHr.trans Hr118 (CHr.keep K158 all0 Hr118.1)
        refine Go.aload (pc' := 312) C115 X158 at_310 rfl rfl rfl ?_
        refine Go.acmpNo (pc' := 315) C115 X158 at_312 rfl rfl (XT.aa_ne_f rfl) rfl ?_
        refine Go.iconst (z := (1 : Int32)) (pc' := 316) C115 X158 at_315 rfl rfl ?_
        refine Go.goto (pc' := 320) C115 X158 at_316 (by decide) (by decide) ?_
        have K162 : Keep h0 T158.heap [] := ((((((Keep.refl h0 []).ext E103).trans K105 all0).trans K108 (allS (Or.inr z_b103) all0)).ext E115).trans K158 all0)
        have Si163 : Sin s sC115 T158.heap := Sin.mono Si115 (Nat.le_trans (Nat.le_refl _) K158.1)
        exact Go.retNH C115 X158 Si163 (EWc hw) Hr161 rfl at_320 (by simp) ⟨rfl, N158, K162⟩ (by decide) (by decide)
    · refine Go.ifYes (pc' := 46) C X101 at_28 ((if0 _ _).trans (feq (x := (p1 &&& (7 : Int32))) (y := (0 : Int32)) hc28_102).2) (by decide) (by decide) ?_
      refine Go.iload (pc' := 48) C X101 at_46 rfl rfl ?_
      refine Go.iconst (z := (1 : Int32)) (pc' := 49) C X101 at_48 rfl rfl ?_
      by_cases hc49_164 : (p1 &&& (7 : Int32)) = (1 : Int32)
      · refine Go.icmpNo (pc' := 52) C X101 at_49 (teq (x := (p1 &&& (7 : Int32))) (y := (1 : Int32)) hc49_164).2 rfl ?_
        refine Go.newO (pc' := 55) C X101 (tw hw 1 rfl) (tw hw 2 rfl) (tw hw 3 rfl) e101 (by decide) (by decide) at_52 rfl ?_
        intro T165 h165 b165 X165 e165 g165 E165 A165 D165
        have Hr166 := CHr.trans Hr0 (CHr.ext E165 Hr0.1)
        have n_b165 : Z.heap.size ≤ b165 := Nat.le_trans O0.1 (Nat.le_of_eq g165.symm)
        have z_b165 : h0.size ≤ b165 := Nat.le_trans (Nat.le_refl _) (Nat.le_of_eq g165.symm)
        have s_b165 : Safe Z consts_1 s.vm h165 b165 := Safe.ext E165 Hr0.1 (Safe.new (Nat.le_of_eq g165.symm))
        have F165_coder : Fld Z h165 b165 "java/lang/String" "coder" "B" (.int (0 : Int32)) := D165 (Or.inr (tw hw 32 rfl)) (ty := .byte) (by decide)
        have F165_value : Fld Z h165 b165 "java/lang/String" "value" "[B" .null := D165 (Or.inr (tw hw 34 rfl)) (ty := (.array .byte)) (by decide)
        refine Go.dup (pc' := 56) C X165 at_55 rfl rfl ?_
        have O168 : Ext Z.heap h165 := (Ext.trans O0 E165)
        refine Go.callS (y := mN2) (pc' := 59) C X165 (tw hw 107 rfl) (tw hw 108 rfl) (by decide) (rm_ar_da l Z a0 hw  h165 O168 ) (tw hw 109 rfl) (tw hw 6 rfl) e165 (argsL := []) (rest := [(.ref b165), (.ref b165)]) (W := 2) rfl rfl pd_11 rfl (Nat.le_of_eq rfl) rfl (by decide) (by decide) (by decide) (by decide) at_56 rfl ?_
        intro T167 v167 L167 X167 q167
        obtain ⟨a_167, ka_167, rfl, N167q, K167, B167_0, P167_0⟩ := q167
        have N167 := Fr.app N101 N167q
        have Hr169 := CHr.trans Hr166 (CHr.keep K167 all0 Hr166.1)
        have n_a_167 : Z.heap.size ≤ a_167 := Nat.le_trans O168.1 B167_0
        have z_a_167 : h0.size ≤ a_167 := Nat.le_trans (Nat.le_trans (Nat.le_refl _) E165.1) B167_0
        have s_a_167 : Safe Z consts_1 s.vm T167.heap a_167 := Safe.keep K167 all0 Hr166.1 (Safe.new B167_0)
        have hlen : daL.length = 17 := by rfl
        have hAll : ∀ x ∈ daL, 0 ≤ x.toInt ∧ x.toInt ≤ 255 := by decide
        have c171 : Exa Z T167.heap b165 "java/lang/String" := (Exa.keep A165 K167)
        have c172 : Fld Z T167.heap b165 "java/lang/String" "value" "[B" .null := (Fld.keep F165_value K167 nin0)
        have c173 : Fld Z T167.heap b165 "java/lang/String" "coder" "B" (.int (0 : Int32)) := (Fld.keep F165_coder K167 nin0)
        have O174 : Ext Z.heap T167.heap := (Ext.keep O168 K167 all0)
        refine Go.callI (y := mN8) (a := b165) (pc' := 62) C X167 rfl (tw hw 9 rfl) (tw hw 10 rfl) (by decide) (rm_sI1 l Z a0 hw b165 a_167 ka_167 daL cP T167.heap O174 c171 c172 c173 P167_0 SC hAll (by rw [hlen]; decide) (by rw [hlen]; decide) (by rw [hlen]; decide) hP n_b165) (tw hw 11 rfl) (tw hw 3 rfl) rfl (argsL := [(.ref a_167)]) (rest := [(.ref b165)]) (W := 1) rfl rfl pd_12 rfl (Nat.le_of_eq rfl) rfl (by decide) (by decide) (by decide) (by decide) rfl at_59 rfl ?_
        intro T170 v170 L170 X170 q170
        obtain ⟨v_170, kv_170, rfl, N170q, K170, B170_0, P170_0, P170_1, P170_2⟩ := q170
        have N170 := Fr.app N167 N170q
        have sa176 : Safe Z consts_1 s.vm T167.heap b165 := (Safe.keep K167 all0 Hr166.1 s_b165)
        have Hr175 := CHr.trans Hr169 (CHr.keep K170 (allS sa176 all0) Hr169.1)
        have n_v_170 : Z.heap.size ≤ v_170 := Nat.le_trans O174.1 B170_0
        have z_v_170 : h0.size ≤ v_170 := Nat.le_trans (Nat.le_trans (Nat.le_trans (Nat.le_refl _) E165.1) K167.1) B170_0
        have s_v_170 : Safe Z consts_1 s.vm T170.heap v_170 := Safe.keep K170 (allS sa176 all0) Hr169.1 (Safe.new B170_0)
        refine Go.astore (Ls' := #[.val (.int p1), .val (.int p2), .val (.int p3), .val (.int p4), .val (.int p5), .val (.int p6), .val (.int d6), .val (.int (p4 &&& (65535 : Int32))), .val (.int (p1 &&& (7 : Int32))), .val (.ref b165), .unset, .unset]) (pc' := 64) C X170 at_62 rfl rfl rfl ?_
        refine Go.goto (pc' := 266) C X170 at_64 (by decide) (by decide) ?_
        have O178 : Ext Z.heap T170.heap := (Ext.keep O174 K170 (allS n_b165 all0))
        have Si179 : Sin s s T170.heap := Sin.mono Si0 (Nat.le_trans (Nat.le_trans (Nat.le_trans (Nat.le_refl _) E165.1) K167.1) K170.1)
        refine Go.ldcH (pc' := 268) (n := 60) (vs := [(.int (108 : Int32)), (.int (97 : Int32)), (.int (119 : Int32)), (.int (45 : Int32)), (.int (101 : Int32)), (.int (110 : Int32)), (.int (102 : Int32)), (.int (111 : Int32)), (.int (114 : Int32)), (.int (99 : Int32)), (.int (101 : Int32)), (.int (109 : Int32)), (.int (101 : Int32)), (.int (110 : Int32)), (.int (116 : Int32))]) (z := (15 : Int32)) C X170 Si179 (EWc hw) Hr175.1 (tw hw 35 rfl) (wS hw) rfl (by decide) (by decide) (by decide) (by decide) (by decide) (by decide) (by decide) (by decide) at_266 rfl ?_
        intro T177 h177 b177 sC177 v177 k177 C177 X177 e177 Si177 E177 hR177 A177 F177c F177v B177 hne177
        have Hr180 := CHr.trans Hr175 hR177
        have sa181 : Safe Z consts_1 sC177.vm h177 b165 := (CHr.safe hR177 (Nat.lt_of_lt_of_le A165.lt (Nat.le_trans (Nat.le_trans (Nat.le_refl _) K167.1) K170.1)) (Safe.keep K170 (allS sa176 all0) Hr169.1 sa176))
        have hx177_b165 := hne177 b165 sa181
        have ne182 : a_167 ≠ b165 := (Nat.ne_of_gt (Nat.lt_of_lt_of_le A165.lt (Nat.le_trans (Nat.le_refl _) B167_0)))
        have c183 : AL Z h177 a_167 ka_167 .char (ch16 daL) := (AL.ext E177 (AL.keep P167_0 K170 (ninS ne182 nin0)))
        have hx177_a_167 := hne177 a_167 (Safe.al C177.2.1.alike c183 (by decide))
        have sa184 : Safe Z consts_1 sC177.vm h177 v_170 := (CHr.safe hR177 (Nat.lt_of_lt_of_le P170_2.lt (Nat.le_refl _)) s_v_170)
        have hx177_v_170 := hne177 v_170 sa184
        have tx185 : AL Z h177 v177 k177 .byte (by8 leL) := leV ▸ B177
        refine Go.aload (pc' := 270) C177 X177 at_268 rfl rfl rfl ?_
        have c187 : Exa Z h177 b165 "java/lang/String" := (Exa.ext E177 (Exa.keep c171 K170))
        have c188 : Fld Z h177 b165 "java/lang/String" "value" "[B" (.ref v_170) := (Fld.ext E177 P170_0)
        have c189 : Fld Z h177 b165 "java/lang/String" "coder" "B" (.int (0 : Int32)) := (Fld.ext E177 P170_1)
        have c190 : AL Z h177 v_170 kv_170 .byte (by8 daL) := (AL.ext E177 P170_2)
        have O191 : Ext Z.heap h177 := (Ext.trans O178 E177)
        refine Go.callV (y := mN10) (z := mN10) (a := b177) (pc' := 273) C177 X177 (tw hw 38 rfl) (tw hw 39 rfl) (notFace_at C177.2.1 (tw hw 41 rfl)) (tw hw 41 rfl) (tw hw 40 rfl) A177 (by decide) (rm_eqS l Z a0 hw b177 b165 v177 v_170 k177 kv_170 leL daL cP h177 O191 SC A177 F177v F177c tx185 c187 c188 c189 c190 (Ne.symm hx177_b165.1) hP (by decide) (by rw [hlen]; decide)) (tw hw 42 rfl) (tw hw 3 rfl) e177 (argsL := [(.ref b165)]) (rest := []) (W := 0) rfl rfl pd_10 rfl (Nat.le_of_eq rfl) rfl (by decide) (by decide) (by decide) (by decide) at_270 rfl ?_
        intro T186 v186 L186 X186 q186
        obtain ⟨rfl, rfl, e186⟩ := q186
        have N186 := Fr.app N170 (Fr.nil _)
        by_cases hc273_192 : (if by8 leL = by8 daL then (1 : Int32) else 0) = (0 : Int32)
        · refine Go.ifYes (pc' := 284) C177 X186 at_273 ((if0 _ _).trans (teq (x := (if by8 leL = by8 daL then (1 : Int32) else 0)) (y := (0 : Int32)) hc273_192).1) (by decide) (by decide) ?_
          refine Go.ldcH (pc' := 286) (n := 68) (vs := [(.int (100 : Int32)), (.int (105 : Int32)), (.int (115 : Int32)), (.int (116 : Int32)), (.int (114 : Int32)), (.int (105 : Int32)), (.int (99 : Int32)), (.int (116 : Int32)), (.int (45 : Int32)), (.int (97 : Int32)), (.int (116 : Int32)), (.int (116 : Int32)), (.int (111 : Int32)), (.int (114 : Int32)), (.int (110 : Int32)), (.int (101 : Int32)), (.int (121 : Int32))]) (z := (17 : Int32)) C177 X186 Si177 (EWc hw) Hr180.1 (tw hw 76 rfl) (wS hw) e186 (by decide) (by decide) (by decide) (by decide) (by decide) (by decide) (by decide) (by decide) at_284 rfl ?_
          intro T193 h193 b193 sC193 v193 k193 C193 X193 e193 Si193 E193 hR193 A193 F193c F193v B193 hne193
          have Hr194 := CHr.trans Hr180 hR193
          have sa195 : Safe Z consts_1 sC193.vm h193 b165 := (CHr.safe hR193 (Nat.lt_of_lt_of_le A165.lt (Nat.le_trans (Nat.le_trans (Nat.le_trans (Nat.le_refl _) K167.1) K170.1) E177.1)) sa181)
          have hx193_b165 := hne193 b165 sa195
          have c196 : AL Z h193 a_167 ka_167 .char (ch16 daL) := (AL.ext E193 c183)
          have hx193_a_167 := hne193 a_167 (Safe.al C193.2.1.alike c196 (by decide))
          have sa197 : Safe Z consts_1 sC193.vm h193 v_170 := (CHr.safe hR193 (Nat.lt_of_lt_of_le P170_2.lt (Nat.le_trans (Nat.le_refl _) E177.1)) sa184)
          have hx193_v_170 := hne193 v_170 sa197
          have tx198 : AL Z h193 v193 k193 .byte (by8 daL) := daV ▸ B193
          refine Go.aload (pc' := 288) C193 X193 at_286 rfl rfl rfl ?_
          have c200 : Exa Z h193 b165 "java/lang/String" := (Exa.ext E193 c187)
          have c201 : Fld Z h193 b165 "java/lang/String" "value" "[B" (.ref v_170) := (Fld.ext E193 c188)
          have c202 : Fld Z h193 b165 "java/lang/String" "coder" "B" (.int (0 : Int32)) := (Fld.ext E193 c189)
          have c203 : AL Z h193 v_170 kv_170 .byte (by8 daL) := (AL.ext E193 c190)
          have O204 : Ext Z.heap h193 := (Ext.trans O191 E193)
          refine Go.callV (y := mN10) (z := mN10) (a := b193) (pc' := 291) C193 X193 (tw hw 38 rfl) (tw hw 39 rfl) (notFace_at C193.2.1 (tw hw 41 rfl)) (tw hw 41 rfl) (tw hw 40 rfl) A193 (by decide) (rm_eqS l Z a0 hw b193 b165 v193 v_170 k193 kv_170 daL daL cP h193 O204 SC A193 F193v F193c tx198 c200 c201 c202 c203 (Ne.symm hx193_b165.1) hP (by rw [hlen]; decide) (by rw [hlen]; decide)) (tw hw 42 rfl) (tw hw 3 rfl) e193 (argsL := [(.ref b165)]) (rest := []) (W := 0) rfl rfl pd_10 rfl (Nat.le_of_eq rfl) rfl (by decide) (by decide) (by decide) (by decide) at_288 rfl ?_
          intro T199 v199 L199 X199 q199
          obtain ⟨rfl, rfl, e199⟩ := q199
          have N199 := Fr.app N186 (Fr.nil _)
          by_cases hc291_205 : (if by8 daL = by8 daL then (1 : Int32) else 0) = (0 : Int32)
          · refine Go.ifYes (pc' := 302) C193 X199 at_291 ((if0 _ _).trans (teq (x := (if by8 daL = by8 daL then (1 : Int32) else 0)) (y := (0 : Int32)) hc291_205).1) (by decide) (by decide) ?_
            refine Go.aconstNull (pc' := 303) C193 X199 at_302 rfl ?_
            refine Go.astore (Ls' := #[.val (.int p1), .val (.int p2), .val (.int p3), .val (.int p4), .val (.int p5), .val (.int p6), .val (.int d6), .val (.int (p4 &&& (65535 : Int32))), .val (.int (p1 &&& (7 : Int32))), .val (.ref b165), .val .null, .unset]) (pc' := 305) C193 X199 at_303 rfl rfl rfl ?_
            refine Go.aload (pc' := 307) C193 X199 at_305 rfl rfl rfl ?_
            have ne207 : tle ≠ b165 := Nat.ne_of_lt (Nat.lt_of_lt_of_le (Nat.lt_of_lt_of_le le_0.lt O0.1) (Nat.le_trans (Nat.le_refl _) (Nat.le_of_eq g165.symm)))
            have ne208 : tda ≠ b165 := Nat.ne_of_lt (Nat.lt_of_lt_of_le (Nat.lt_of_lt_of_le da_0.lt O0.1) (Nat.le_trans (Nat.le_refl _) (Nat.le_of_eq g165.symm)))
            refine Go.callS (y := mN0) (pc' := 310) C193 X199 (tw hw 51 rfl) (tw hw 52 rfl) (by decide) (rm_nmLno l Z a0 hw va vk le0 tle lev lek da0 tda dav dak b165 cP v_170 kv_170 daL h193 O204 SV Ev Av Tle le_0 le_1 le_2 le_3 Tda da_0 da_1 da_2 da_3 c200 c201 c202 c203 SC hP ne207 ne208 (by rw [hlen]; decide) (own_ifz hc273_192) (own_ifz hc291_205)) (tw hw 53 rfl) (tw hw 49 rfl) e199 (argsL := [(.ref b165)]) (rest := []) (W := 0) rfl rfl pd_13 rfl (Nat.le_of_eq rfl) rfl (by decide) (by decide) (by decide) (by decide) at_307 rfl ?_
            intro T206 v206 L206 X206 q206
            obtain ⟨rfl, N206q, K206⟩ := q206
            have N206 := Fr.app N199 N206q
            have Hr209 := CHr.trans Hr194 (CHr.keep K206 all0 Hr194.1)
            refine Go.aload (pc' := 312) C193 X206 at_310 rfl rfl rfl ?_
            refine Go.acmpNo (pc' := 315) C193 X206 at_312 rfl rfl (XT.aa_ne_f rfl) rfl ?_
            refine Go.iconst (z := (1 : Int32)) (pc' := 316) C193 X206 at_315 rfl rfl ?_
            refine Go.goto (pc' := 320) C193 X206 at_316 (by decide) (by decide) ?_
            have K210 : Keep h0 T206.heap [] := (((((((Keep.refl h0 []).ext E165).trans K167 all0).trans K170 (allS (Or.inr z_b165) all0)).ext E177).ext E193).trans K206 all0)
            have Si211 : Sin s sC193 T206.heap := Sin.mono Si193 (Nat.le_trans (Nat.le_refl _) K206.1)
            exact Go.retNH C193 X206 Si211 (EWc hw) Hr209 rfl at_320 (by simp) ⟨rfl, N206, K210⟩ (by decide) (by decide)
          · refine Go.ifNo (pc' := 294) C193 X199 at_291 ((if0 _ _).trans (feq (x := (if by8 daL = by8 daL then (1 : Int32) else 0)) (y := (0 : Int32)) hc291_205).1) rfl ?_
            refine Go.getS (pc' := 297) (host := "") C193 X199 (Or.inl (tw hw 110 rfl)) Via.refl e199 (Sda.ext O204) at_294 rfl ?_
            intro T212 X212 e212
            refine Go.astore (Ls' := #[.val (.int p1), .val (.int p2), .val (.int p3), .val (.int p4), .val (.int p5), .val (.int p6), .val (.int d6), .val (.int (p4 &&& (65535 : Int32))), .val (.int (p1 &&& (7 : Int32))), .val (.ref b165), .val (.ref da0), .unset]) (pc' := 299) C193 X212 at_297 rfl rfl rfl ?_
            refine Go.goto (pc' := 305) C193 X212 at_299 (by decide) (by decide) ?_
            refine Go.aload (pc' := 307) C193 X212 at_305 rfl rfl rfl ?_
            have ne214 : tle ≠ b165 := Nat.ne_of_lt (Nat.lt_of_lt_of_le (Nat.lt_of_lt_of_le le_0.lt O0.1) (Nat.le_trans (Nat.le_refl _) (Nat.le_of_eq g165.symm)))
            have ne215 : tda ≠ b165 := Nat.ne_of_lt (Nat.lt_of_lt_of_le (Nat.lt_of_lt_of_le da_0.lt O0.1) (Nat.le_trans (Nat.le_refl _) (Nat.le_of_eq g165.symm)))
            refine Go.callS (y := mN0) (pc' := 310) C193 X212 (tw hw 51 rfl) (tw hw 52 rfl) (by decide) (rm_nmLda l Z a0 hw va vk le0 tle lev lek da0 tda dav dak b165 cP v_170 kv_170 daL h193 O204 SV Ev Av Tle le_0 le_1 le_2 le_3 Tda da_0 da_1 da_2 da_3 c200 c201 c202 c203 SC hP ne214 ne215 (by rw [hlen]; decide) (own_ifz hc273_192) rfl) (tw hw 53 rfl) (tw hw 49 rfl) e212 (argsL := [(.ref b165)]) (rest := []) (W := 0) rfl rfl pd_13 rfl (Nat.le_of_eq rfl) rfl (by decide) (by decide) (by decide) (by decide) at_307 rfl ?_
            intro T213 v213 L213 X213 q213
            obtain ⟨rfl, N213q, K213⟩ := q213
            have N213 := Fr.app N199 N213q
            have Hr216 := CHr.trans Hr194 (CHr.keep K213 all0 Hr194.1)
            refine Go.aload (pc' := 312) C193 X213 at_310 rfl rfl rfl ?_
            refine Go.acmpNo (pc' := 315) C193 X213 at_312 rfl rfl (XT.aa_ne_f rfl) rfl ?_
            refine Go.iconst (z := (1 : Int32)) (pc' := 316) C193 X213 at_315 rfl rfl ?_
            refine Go.goto (pc' := 320) C193 X213 at_316 (by decide) (by decide) ?_
            have K217 : Keep h0 T213.heap [] := (((((((Keep.refl h0 []).ext E165).trans K167 all0).trans K170 (allS (Or.inr z_b165) all0)).ext E177).ext E193).trans K213 all0)
            have Si218 : Sin s sC193 T213.heap := Sin.mono Si193 (Nat.le_trans (Nat.le_refl _) K213.1)
            exact Go.retNH C193 X213 Si218 (EWc hw) Hr216 rfl at_320 (by simp) ⟨rfl, N213, K217⟩ (by decide) (by decide)
        · refine Go.ifNo (pc' := 276) C177 X186 at_273 ((if0 _ _).trans (feq (x := (if by8 leL = by8 daL then (1 : Int32) else 0)) (y := (0 : Int32)) hc273_192).1) rfl ?_
          refine Go.getS (pc' := 279) (host := "") C177 X186 (Or.inl (tw hw 48 rfl)) Via.refl e186 (Sle.ext O191) at_276 rfl ?_
          intro T219 X219 e219
          refine Go.astore (Ls' := #[.val (.int p1), .val (.int p2), .val (.int p3), .val (.int p4), .val (.int p5), .val (.int p6), .val (.int d6), .val (.int (p4 &&& (65535 : Int32))), .val (.int (p1 &&& (7 : Int32))), .val (.ref b165), .val (.ref le0), .unset]) (pc' := 281) C177 X219 at_279 rfl rfl rfl ?_
          refine Go.goto (pc' := 305) C177 X219 at_281 (by decide) (by decide) ?_
          refine Go.aload (pc' := 307) C177 X219 at_305 rfl rfl rfl ?_
          have ne221 : tle ≠ b165 := Nat.ne_of_lt (Nat.lt_of_lt_of_le (Nat.lt_of_lt_of_le le_0.lt O0.1) (Nat.le_trans (Nat.le_refl _) (Nat.le_of_eq g165.symm)))
          have ne222 : tda ≠ b165 := Nat.ne_of_lt (Nat.lt_of_lt_of_le (Nat.lt_of_lt_of_le da_0.lt O0.1) (Nat.le_trans (Nat.le_refl _) (Nat.le_of_eq g165.symm)))
          refine Go.callS (y := mN0) (pc' := 310) C177 X219 (tw hw 51 rfl) (tw hw 52 rfl) (by decide) (rm_nmLle l Z a0 hw va vk le0 tle lev lek da0 tda dav dak b165 cP v_170 kv_170 daL h177 O191 SV Ev Av Tle le_0 le_1 le_2 le_3 Tda da_0 da_1 da_2 da_3 c187 c188 c189 c190 SC hP ne221 ne222 (by rw [hlen]; decide) (own_ifn hc273_192)) (tw hw 53 rfl) (tw hw 49 rfl) e219 (argsL := [(.ref b165)]) (rest := []) (W := 0) rfl rfl pd_13 rfl (Nat.le_of_eq rfl) rfl (by decide) (by decide) (by decide) (by decide) at_307 rfl ?_
          intro T220 v220 L220 X220 q220
          obtain ⟨rfl, N220q, K220⟩ := q220
          have N220 := Fr.app N186 N220q
          have Hr223 := CHr.trans Hr180 (CHr.keep K220 all0 Hr180.1)
          refine Go.aload (pc' := 312) C177 X220 at_310 rfl rfl rfl ?_
          refine Go.acmpNo (pc' := 315) C177 X220 at_312 rfl rfl (XT.aa_ne_f rfl) rfl ?_
          refine Go.iconst (z := (1 : Int32)) (pc' := 316) C177 X220 at_315 rfl rfl ?_
          refine Go.goto (pc' := 320) C177 X220 at_316 (by decide) (by decide) ?_
          have K224 : Keep h0 T220.heap [] := ((((((Keep.refl h0 []).ext E165).trans K167 all0).trans K170 (allS (Or.inr z_b165) all0)).ext E177).trans K220 all0)
          have Si225 : Sin s sC177 T220.heap := Sin.mono Si177 (Nat.le_trans (Nat.le_refl _) K220.1)
          exact Go.retNH C177 X220 Si225 (EWc hw) Hr223 rfl at_320 (by simp) ⟨rfl, N220, K224⟩ (by decide) (by decide)
      · refine Go.icmpYes (pc' := 67) C X101 at_49 (feq (x := (p1 &&& (7 : Int32))) (y := (1 : Int32)) hc49_164).2 (by decide) (by decide) ?_
        refine Go.iload (pc' := 69) C X101 at_67 rfl rfl ?_
        refine Go.iconst (z := (2 : Int32)) (pc' := 70) C X101 at_69 rfl rfl ?_
        by_cases hc70_226 : (p1 &&& (7 : Int32)) = (2 : Int32)
        · refine Go.icmpNo (pc' := 73) C X101 at_70 (teq (x := (p1 &&& (7 : Int32))) (y := (2 : Int32)) hc70_226).2 rfl ?_
          refine Go.iload (pc' := 75) C X101 at_73 rfl rfl ?_
          by_cases hc75_227 : d6 = (0 : Int32)
          · refine Go.ifYes (pc' := 84) C X101 at_75 ((if0 _ _).trans (teq (x := d6) (y := (0 : Int32)) hc75_227).1) (by decide) (by decide) ?_
            refine Go.callS (y := mN5) (pc' := 87) C X101 (tw hw 4 rfl) (tw hw 5 rfl) (by decide) (rm_ar_le l Z a0 hw  h0 O0 ) (tw hw 7 rfl) (tw hw 6 rfl) e101 (argsL := []) (rest := []) (W := 0) rfl rfl pd_11 rfl (Nat.le_of_eq rfl) rfl (by decide) (by decide) (by decide) (by decide) at_84 rfl ?_
            intro T228 v228 L228 X228 q228
            obtain ⟨a_228, ka_228, rfl, N228q, K228, B228_0, P228_0⟩ := q228
            have N228 := Fr.app N101 N228q
            have Hr229 := CHr.trans Hr0 (CHr.keep K228 all0 Hr0.1)
            have n_a_228 : Z.heap.size ≤ a_228 := Nat.le_trans O0.1 B228_0
            have z_a_228 : h0.size ≤ a_228 := Nat.le_trans (Nat.le_refl _) B228_0
            have s_a_228 : Safe Z consts_1 s.vm T228.heap a_228 := Safe.keep K228 all0 Hr0.1 (Safe.new B228_0)
            refine Go.astore (Ls' := #[.val (.int p1), .val (.int p2), .val (.int p3), .val (.int p4), .val (.int p5), .val (.int p6), .val (.int d6), .val (.int (p4 &&& (65535 : Int32))), .val (.int (p1 &&& (7 : Int32))), .unset, .val (.ref a_228), .unset]) (pc' := 89) C X228 at_87 rfl rfl rfl ?_
            refine Go.iloadN (pc' := 90) C X228 at_89 rfl rfl ?_
            refine Go.ldcI (pc' := 92) C X228 at_90 (tw hw 81 rfl) rfl ?_
            refine Go.iand (pc' := 93) C X228 at_92 rfl ?_
            refine Go.aload (pc' := 95) C X228 at_93 rfl rfl rfl ?_
            refine Go.alen (z := (15 : Int32)) (pc' := 96) C X228 rfl P228_0 rfl at_95 rfl ?_
            refine Go.irem (pc' := 97) C X228 at_96 (by decide) rfl ?_
            refine Go.istore (Ls' := #[.val (.int p1), .val (.int p2), .val (.int p3), .val (.int p4), .val (.int p5), .val (.int p6), .val (.int d6), .val (.int (p4 &&& (65535 : Int32))), .val (.int (p1 &&& (7 : Int32))), .unset, .val (.ref a_228), .val (.int ((p3 &&& (2147483647 : Int32)) % (15 : Int32)))]) (pc' := 99) C X228 at_97 rfl rfl ?_
            refine Go.aload (pc' := 101) C X228 at_99 rfl rfl rfl ?_
            refine Go.iload (pc' := 103) C X228 at_101 rfl rfl ?_
            refine Go.iload (pc' := 105) C X228 at_103 rfl rfl ?_
            refine Go.stC (i := ((p3 &&& (2147483647 : Int32)) % (15 : Int32)).toNatClampNeg) (x' := (p4 &&& (65535 : Int32))) (vs' := (ch16 (leL.set ((p3 &&& (2147483647 : Int32)) % (15 : Int32)).toNatClampNeg (p4 &&& (65535 : Int32))))) (pc' := 106) C X228 rfl P228_0 (ix (k := 15) (by decide) (by decide)).1 rfl (by rw [ch16_len]; exact (ix (k := 15) (by decide) (by decide)).2) (n16 _) (ch16_set _ _ _) at_105 rfl ?_
            intro T230 h230 X230 e230 W230 A230
            have Hr231 := CHr.trans Hr229 (CHr.wr W230 (Safe.al C.2.1.alike P228_0 (by decide)) Hr229.1)
            have N230 := Fr.snoc X230 N228 n_a_228
            have O233 : Ext Z.heap h230 := (Ext.wr (Ext.keep O0 K228 all0) W230 n_a_228)
            refine Go.newO (pc' := 109) C X230 (tw hw 1 rfl) (tw hw 2 rfl) (tw hw 3 rfl) e230 (by decide) (by decide) at_106 rfl ?_
            intro T232 h232 b232 X232 e232 g232 E232 A232 D232
            have Hr234 := CHr.trans Hr231 (CHr.ext E232 Hr231.1)
            have n_b232 : Z.heap.size ≤ b232 := Nat.le_trans O233.1 (Nat.le_of_eq g232.symm)
            have z_b232 : h0.size ≤ b232 := Nat.le_trans (Nat.le_trans (Nat.le_trans (Nat.le_refl _) K228.1) (Nat.le_of_eq W230.size.symm)) (Nat.le_of_eq g232.symm)
            have s_b232 : Safe Z consts_1 s.vm h232 b232 := Safe.ext E232 Hr231.1 (Safe.new (Nat.le_of_eq g232.symm))
            have F232_coder : Fld Z h232 b232 "java/lang/String" "coder" "B" (.int (0 : Int32)) := D232 (Or.inr (tw hw 32 rfl)) (ty := .byte) (by decide)
            have F232_value : Fld Z h232 b232 "java/lang/String" "value" "[B" .null := D232 (Or.inr (tw hw 34 rfl)) (ty := (.array .byte)) (by decide)
            refine Go.dup (pc' := 110) C X232 at_109 rfl rfl ?_
            refine Go.aload (pc' := 112) C X232 at_110 rfl rfl rfl ?_
            have hlen : (leL.set ((p3 &&& (2147483647 : Int32)) % (15 : Int32)).toNatClampNeg (p4 &&& (65535 : Int32))).length = 15 := by rw [List.length_set]; rfl
            rcases split16 (leL.set ((p3 &&& (2147483647 : Int32)) % (15 : Int32)).toNatClampNeg (p4 &&& (65535 : Int32))) (set16 (by decide) (m16 p4)) with hAll | ⟨j, xj, hj, hx, hx2, hb⟩
            · have c236 : AL Z h232 a_228 ka_228 .char (ch16 (leL.set ((p3 &&& (2147483647 : Int32)) % (15 : Int32)).toNatClampNeg (p4 &&& (65535 : Int32)))) := (AL.ext E232 A230)
              have O237 : Ext Z.heap h232 := (Ext.trans O233 E232)
              refine Go.callI (y := mN8) (a := b232) (pc' := 115) C X232 rfl (tw hw 9 rfl) (tw hw 10 rfl) (by decide) (rm_sI1 l Z a0 hw b232 a_228 ka_228 ((leL.set ((p3 &&& (2147483647 : Int32)) % (15 : Int32)).toNatClampNeg (p4 &&& (65535 : Int32)))) cP h232 O237 A232 F232_value F232_coder c236 SC hAll (by rw [hlen]; decide) (by rw [hlen]; decide) (by rw [hlen]; decide) hP n_b232) (tw hw 11 rfl) (tw hw 3 rfl) e232 (argsL := [(.ref a_228)]) (rest := [(.ref b232)]) (W := 1) rfl rfl pd_12 rfl (Nat.le_of_eq rfl) rfl (by decide) (by decide) (by decide) (by decide) rfl at_112 rfl ?_
              intro T235 v235 L235 X235 q235
              obtain ⟨v_235, kv_235, rfl, N235q, K235, B235_0, P235_0, P235_1, P235_2⟩ := q235
              have N235 := Fr.app N230 N235q
              have Hr238 := CHr.trans Hr234 (CHr.keep K235 (allS s_b232 all0) Hr234.1)
              have n_v_235 : Z.heap.size ≤ v_235 := Nat.le_trans O237.1 B235_0
              have z_v_235 : h0.size ≤ v_235 := Nat.le_trans (Nat.le_trans (Nat.le_trans (Nat.le_trans (Nat.le_refl _) K228.1) (Nat.le_of_eq W230.size.symm)) E232.1) B235_0
              have s_v_235 : Safe Z consts_1 s.vm T235.heap v_235 := Safe.keep K235 (allS s_b232 all0) Hr234.1 (Safe.new B235_0)
              refine Go.astore (Ls' := #[.val (.int p1), .val (.int p2), .val (.int p3), .val (.int p4), .val (.int p5), .val (.int p6), .val (.int d6), .val (.int (p4 &&& (65535 : Int32))), .val (.int (p1 &&& (7 : Int32))), .val (.ref b232), .val (.ref a_228), .val (.int ((p3 &&& (2147483647 : Int32)) % (15 : Int32)))]) (pc' := 117) C X235 at_115 rfl rfl rfl ?_
              refine Go.goto (pc' := 266) C X235 at_117 (by decide) (by decide) ?_
              have O240 : Ext Z.heap T235.heap := (Ext.keep O237 K235 (allS n_b232 all0))
              have Si241 : Sin s s T235.heap := Sin.mono Si0 (Nat.le_trans (Nat.le_trans (Nat.le_trans (Nat.le_trans (Nat.le_refl _) K228.1) (Nat.le_of_eq W230.size.symm)) E232.1) K235.1)
              refine Go.ldcH (pc' := 268) (n := 60) (vs := [(.int (108 : Int32)), (.int (97 : Int32)), (.int (119 : Int32)), (.int (45 : Int32)), (.int (101 : Int32)), (.int (110 : Int32)), (.int (102 : Int32)), (.int (111 : Int32)), (.int (114 : Int32)), (.int (99 : Int32)), (.int (101 : Int32)), (.int (109 : Int32)), (.int (101 : Int32)), (.int (110 : Int32)), (.int (116 : Int32))]) (z := (15 : Int32)) C X235 Si241 (EWc hw) Hr238.1 (tw hw 35 rfl) (wS hw) rfl (by decide) (by decide) (by decide) (by decide) (by decide) (by decide) (by decide) (by decide) at_266 rfl ?_
              intro T239 h239 b239 sC239 v239 k239 C239 X239 e239 Si239 E239 hR239 A239 F239c F239v B239 hne239
              have Hr242 := CHr.trans Hr238 hR239
              have ne243 : a_228 ≠ b232 := Nat.ne_of_lt (Nat.lt_of_lt_of_le P228_0.lt (Nat.le_trans (Nat.le_trans (Nat.le_refl _) (Nat.le_of_eq W230.size.symm)) (Nat.le_of_eq g232.symm)))
              have c244 : AL Z h239 a_228 ka_228 .char (ch16 (leL.set ((p3 &&& (2147483647 : Int32)) % (15 : Int32)).toNatClampNeg (p4 &&& (65535 : Int32)))) := (AL.ext E239 (AL.keep c236 K235 (ninS ne243 nin0)))
              have hx239_a_228 := hne239 a_228 (Safe.al C239.2.1.alike c244 (by decide))
              have sa245 : Safe Z consts_1 sC239.vm h239 b232 := (CHr.safe hR239 (Nat.lt_of_lt_of_le A232.lt (Nat.le_trans (Nat.le_refl _) K235.1)) (Safe.keep K235 (allS s_b232 all0) Hr234.1 s_b232))
              have hx239_b232 := hne239 b232 sa245
              have sa246 : Safe Z consts_1 sC239.vm h239 v_235 := (CHr.safe hR239 (Nat.lt_of_lt_of_le P235_2.lt (Nat.le_refl _)) s_v_235)
              have hx239_v_235 := hne239 v_235 sa246
              have tx247 : AL Z h239 v239 k239 .byte (by8 leL) := leV ▸ B239
              refine Go.aload (pc' := 270) C239 X239 at_268 rfl rfl rfl ?_
              have c249 : Exa Z h239 b232 "java/lang/String" := (Exa.ext E239 (Exa.keep A232 K235))
              have c250 : Fld Z h239 b232 "java/lang/String" "value" "[B" (.ref v_235) := (Fld.ext E239 P235_0)
              have c251 : Fld Z h239 b232 "java/lang/String" "coder" "B" (.int (0 : Int32)) := (Fld.ext E239 P235_1)
              have c252 : AL Z h239 v_235 kv_235 .byte (by8 (leL.set ((p3 &&& (2147483647 : Int32)) % (15 : Int32)).toNatClampNeg (p4 &&& (65535 : Int32)))) := (AL.ext E239 P235_2)
              have O253 : Ext Z.heap h239 := (Ext.trans O240 E239)
              refine Go.callV (y := mN10) (z := mN10) (a := b239) (pc' := 273) C239 X239 (tw hw 38 rfl) (tw hw 39 rfl) (notFace_at C239.2.1 (tw hw 41 rfl)) (tw hw 41 rfl) (tw hw 40 rfl) A239 (by decide) (rm_eqS l Z a0 hw b239 b232 v239 v_235 k239 kv_235 leL ((leL.set ((p3 &&& (2147483647 : Int32)) % (15 : Int32)).toNatClampNeg (p4 &&& (65535 : Int32)))) cP h239 O253 SC A239 F239v F239c tx247 c249 c250 c251 c252 (Ne.symm hx239_b232.1) hP (by decide) (by rw [hlen]; decide)) (tw hw 42 rfl) (tw hw 3 rfl) e239 (argsL := [(.ref b232)]) (rest := []) (W := 0) rfl rfl pd_10 rfl (Nat.le_of_eq rfl) rfl (by decide) (by decide) (by decide) (by decide) at_270 rfl ?_
              intro T248 v248 L248 X248 q248
              obtain ⟨rfl, rfl, e248⟩ := q248
              have N248 := Fr.app N235 (Fr.nil _)
              by_cases hc273_254 : (if by8 leL = by8 (leL.set ((p3 &&& (2147483647 : Int32)) % (15 : Int32)).toNatClampNeg (p4 &&& (65535 : Int32))) then (1 : Int32) else 0) = (0 : Int32)
              · refine Go.ifYes (pc' := 284) C239 X248 at_273 ((if0 _ _).trans (teq (x := (if by8 leL = by8 (leL.set ((p3 &&& (2147483647 : Int32)) % (15 : Int32)).toNatClampNeg (p4 &&& (65535 : Int32))) then (1 : Int32) else 0)) (y := (0 : Int32)) hc273_254).1) (by decide) (by decide) ?_
                refine Go.ldcH (pc' := 286) (n := 68) (vs := [(.int (100 : Int32)), (.int (105 : Int32)), (.int (115 : Int32)), (.int (116 : Int32)), (.int (114 : Int32)), (.int (105 : Int32)), (.int (99 : Int32)), (.int (116 : Int32)), (.int (45 : Int32)), (.int (97 : Int32)), (.int (116 : Int32)), (.int (116 : Int32)), (.int (111 : Int32)), (.int (114 : Int32)), (.int (110 : Int32)), (.int (101 : Int32)), (.int (121 : Int32))]) (z := (17 : Int32)) C239 X248 Si239 (EWc hw) Hr242.1 (tw hw 76 rfl) (wS hw) e248 (by decide) (by decide) (by decide) (by decide) (by decide) (by decide) (by decide) (by decide) at_284 rfl ?_
                intro T255 h255 b255 sC255 v255 k255 C255 X255 e255 Si255 E255 hR255 A255 F255c F255v B255 hne255
                have Hr256 := CHr.trans Hr242 hR255
                have c257 : AL Z h255 a_228 ka_228 .char (ch16 (leL.set ((p3 &&& (2147483647 : Int32)) % (15 : Int32)).toNatClampNeg (p4 &&& (65535 : Int32)))) := (AL.ext E255 c244)
                have hx255_a_228 := hne255 a_228 (Safe.al C255.2.1.alike c257 (by decide))
                have sa258 : Safe Z consts_1 sC255.vm h255 b232 := (CHr.safe hR255 (Nat.lt_of_lt_of_le A232.lt (Nat.le_trans (Nat.le_trans (Nat.le_refl _) K235.1) E239.1)) sa245)
                have hx255_b232 := hne255 b232 sa258
                have sa259 : Safe Z consts_1 sC255.vm h255 v_235 := (CHr.safe hR255 (Nat.lt_of_lt_of_le P235_2.lt (Nat.le_trans (Nat.le_refl _) E239.1)) sa246)
                have hx255_v_235 := hne255 v_235 sa259
                have tx260 : AL Z h255 v255 k255 .byte (by8 daL) := daV ▸ B255
                refine Go.aload (pc' := 288) C255 X255 at_286 rfl rfl rfl ?_
                have c262 : Exa Z h255 b232 "java/lang/String" := (Exa.ext E255 c249)
                have c263 : Fld Z h255 b232 "java/lang/String" "value" "[B" (.ref v_235) := (Fld.ext E255 c250)
                have c264 : Fld Z h255 b232 "java/lang/String" "coder" "B" (.int (0 : Int32)) := (Fld.ext E255 c251)
                have c265 : AL Z h255 v_235 kv_235 .byte (by8 (leL.set ((p3 &&& (2147483647 : Int32)) % (15 : Int32)).toNatClampNeg (p4 &&& (65535 : Int32)))) := (AL.ext E255 c252)
                have O266 : Ext Z.heap h255 := (Ext.trans O253 E255)
                refine Go.callV (y := mN10) (z := mN10) (a := b255) (pc' := 291) C255 X255 (tw hw 38 rfl) (tw hw 39 rfl) (notFace_at C255.2.1 (tw hw 41 rfl)) (tw hw 41 rfl) (tw hw 40 rfl) A255 (by decide) (rm_eqS l Z a0 hw b255 b232 v255 v_235 k255 kv_235 daL ((leL.set ((p3 &&& (2147483647 : Int32)) % (15 : Int32)).toNatClampNeg (p4 &&& (65535 : Int32)))) cP h255 O266 SC A255 F255v F255c tx260 c262 c263 c264 c265 (Ne.symm hx255_b232.1) hP (by decide) (by rw [hlen]; decide)) (tw hw 42 rfl) (tw hw 3 rfl) e255 (argsL := [(.ref b232)]) (rest := []) (W := 0) rfl rfl pd_10 rfl (Nat.le_of_eq rfl) rfl (by decide) (by decide) (by decide) (by decide) at_288 rfl ?_
                intro T261 v261 L261 X261 q261
                obtain ⟨rfl, rfl, e261⟩ := q261
                have N261 := Fr.app N248 (Fr.nil _)
                by_cases hc291_267 : (if by8 daL = by8 (leL.set ((p3 &&& (2147483647 : Int32)) % (15 : Int32)).toNatClampNeg (p4 &&& (65535 : Int32))) then (1 : Int32) else 0) = (0 : Int32)
                · refine Go.ifYes (pc' := 302) C255 X261 at_291 ((if0 _ _).trans (teq (x := (if by8 daL = by8 (leL.set ((p3 &&& (2147483647 : Int32)) % (15 : Int32)).toNatClampNeg (p4 &&& (65535 : Int32))) then (1 : Int32) else 0)) (y := (0 : Int32)) hc291_267).1) (by decide) (by decide) ?_
                  refine Go.aconstNull (pc' := 303) C255 X261 at_302 rfl ?_
                  refine Go.astore (Ls' := #[.val (.int p1), .val (.int p2), .val (.int p3), .val (.int p4), .val (.int p5), .val (.int p6), .val (.int d6), .val (.int (p4 &&& (65535 : Int32))), .val (.int (p1 &&& (7 : Int32))), .val (.ref b232), .val .null, .val (.int ((p3 &&& (2147483647 : Int32)) % (15 : Int32)))]) (pc' := 305) C255 X261 at_303 rfl rfl rfl ?_
                  refine Go.aload (pc' := 307) C255 X261 at_305 rfl rfl rfl ?_
                  have ne269 : tle ≠ b232 := Nat.ne_of_lt (Nat.lt_of_lt_of_le (Nat.lt_of_lt_of_le le_0.lt O0.1) (Nat.le_trans (Nat.le_trans (Nat.le_trans (Nat.le_refl _) K228.1) (Nat.le_of_eq W230.size.symm)) (Nat.le_of_eq g232.symm)))
                  have ne270 : tda ≠ b232 := Nat.ne_of_lt (Nat.lt_of_lt_of_le (Nat.lt_of_lt_of_le da_0.lt O0.1) (Nat.le_trans (Nat.le_trans (Nat.le_trans (Nat.le_refl _) K228.1) (Nat.le_of_eq W230.size.symm)) (Nat.le_of_eq g232.symm)))
                  refine Go.callS (y := mN0) (pc' := 310) C255 X261 (tw hw 51 rfl) (tw hw 52 rfl) (by decide) (rm_nmLno l Z a0 hw va vk le0 tle lev lek da0 tda dav dak b232 cP v_235 kv_235 ((leL.set ((p3 &&& (2147483647 : Int32)) % (15 : Int32)).toNatClampNeg (p4 &&& (65535 : Int32)))) h255 O266 SV Ev Av Tle le_0 le_1 le_2 le_3 Tda da_0 da_1 da_2 da_3 c262 c263 c264 c265 SC hP ne269 ne270 (by rw [hlen]; decide) (own_ifz hc273_254) (own_ifz hc291_267)) (tw hw 53 rfl) (tw hw 49 rfl) e261 (argsL := [(.ref b232)]) (rest := []) (W := 0) rfl rfl pd_13 rfl (Nat.le_of_eq rfl) rfl (by decide) (by decide) (by decide) (by decide) at_307 rfl ?_
                  intro T268 v268 L268 X268 q268
                  obtain ⟨rfl, N268q, K268⟩ := q268
                  have N268 := Fr.app N261 N268q
                  have Hr271 := CHr.trans Hr256 (CHr.keep K268 all0 Hr256.1)
                  refine Go.aload (pc' := 312) C255 X268 at_310 rfl rfl rfl ?_
                  refine Go.acmpNo (pc' := 315) C255 X268 at_312 rfl rfl (XT.aa_ne_f rfl) rfl ?_
                  refine Go.iconst (z := (1 : Int32)) (pc' := 316) C255 X268 at_315 rfl rfl ?_
                  refine Go.goto (pc' := 320) C255 X268 at_316 (by decide) (by decide) ?_
                  have K272 : Keep h0 T268.heap [] := ((((((((Keep.refl h0 []).trans K228 all0).wr W230 (Or.inr z_a_228)).ext E232).trans K235 (allS (Or.inr z_b232) all0)).ext E239).ext E255).trans K268 all0)
                  have Si273 : Sin s sC255 T268.heap := Sin.mono Si255 (Nat.le_trans (Nat.le_refl _) K268.1)
                  exact Go.retNH C255 X268 Si273 (EWc hw) Hr271 rfl at_320 (by simp) ⟨rfl, N268, K272⟩ (by decide) (by decide)
                · refine Go.ifNo (pc' := 294) C255 X261 at_291 ((if0 _ _).trans (feq (x := (if by8 daL = by8 (leL.set ((p3 &&& (2147483647 : Int32)) % (15 : Int32)).toNatClampNeg (p4 &&& (65535 : Int32))) then (1 : Int32) else 0)) (y := (0 : Int32)) hc291_267).1) rfl ?_
                  refine Go.getS (pc' := 297) (host := "") C255 X261 (Or.inl (tw hw 110 rfl)) Via.refl e261 (Sda.ext O266) at_294 rfl ?_
                  intro T274 X274 e274
                  refine Go.astore (Ls' := #[.val (.int p1), .val (.int p2), .val (.int p3), .val (.int p4), .val (.int p5), .val (.int p6), .val (.int d6), .val (.int (p4 &&& (65535 : Int32))), .val (.int (p1 &&& (7 : Int32))), .val (.ref b232), .val (.ref da0), .val (.int ((p3 &&& (2147483647 : Int32)) % (15 : Int32)))]) (pc' := 299) C255 X274 at_297 rfl rfl rfl ?_
                  refine Go.goto (pc' := 305) C255 X274 at_299 (by decide) (by decide) ?_
                  refine Go.aload (pc' := 307) C255 X274 at_305 rfl rfl rfl ?_
                  have ne276 : tle ≠ b232 := Nat.ne_of_lt (Nat.lt_of_lt_of_le (Nat.lt_of_lt_of_le le_0.lt O0.1) (Nat.le_trans (Nat.le_trans (Nat.le_trans (Nat.le_refl _) K228.1) (Nat.le_of_eq W230.size.symm)) (Nat.le_of_eq g232.symm)))
                  have ne277 : tda ≠ b232 := Nat.ne_of_lt (Nat.lt_of_lt_of_le (Nat.lt_of_lt_of_le da_0.lt O0.1) (Nat.le_trans (Nat.le_trans (Nat.le_trans (Nat.le_refl _) K228.1) (Nat.le_of_eq W230.size.symm)) (Nat.le_of_eq g232.symm)))
                  refine Go.callS (y := mN0) (pc' := 310) C255 X274 (tw hw 51 rfl) (tw hw 52 rfl) (by decide) (rm_nmLda l Z a0 hw va vk le0 tle lev lek da0 tda dav dak b232 cP v_235 kv_235 ((leL.set ((p3 &&& (2147483647 : Int32)) % (15 : Int32)).toNatClampNeg (p4 &&& (65535 : Int32)))) h255 O266 SV Ev Av Tle le_0 le_1 le_2 le_3 Tda da_0 da_1 da_2 da_3 c262 c263 c264 c265 SC hP ne276 ne277 (by rw [hlen]; decide) (own_ifz hc273_254) (own_ifn hc291_267)) (tw hw 53 rfl) (tw hw 49 rfl) e274 (argsL := [(.ref b232)]) (rest := []) (W := 0) rfl rfl pd_13 rfl (Nat.le_of_eq rfl) rfl (by decide) (by decide) (by decide) (by decide) at_307 rfl ?_
                  intro T275 v275 L275 X275 q275
                  obtain ⟨rfl, N275q, K275⟩ := q275
                  have N275 := Fr.app N261 N275q
                  have Hr278 := CHr.trans Hr256 (CHr.keep K275 all0 Hr256.1)
                  refine Go.aload (pc' := 312) C255 X275 at_310 rfl rfl rfl ?_
                  refine Go.acmpNo (pc' := 315) C255 X275 at_312 rfl rfl (XT.aa_ne_f rfl) rfl ?_
                  refine Go.iconst (z := (1 : Int32)) (pc' := 316) C255 X275 at_315 rfl rfl ?_
                  refine Go.goto (pc' := 320) C255 X275 at_316 (by decide) (by decide) ?_
                  have K279 : Keep h0 T275.heap [] := ((((((((Keep.refl h0 []).trans K228 all0).wr W230 (Or.inr z_a_228)).ext E232).trans K235 (allS (Or.inr z_b232) all0)).ext E239).ext E255).trans K275 all0)
                  have Si280 : Sin s sC255 T275.heap := Sin.mono Si255 (Nat.le_trans (Nat.le_refl _) K275.1)
                  exact Go.retNH C255 X275 Si280 (EWc hw) Hr278 rfl at_320 (by simp) ⟨rfl, N275, K279⟩ (by decide) (by decide)
              · refine Go.ifNo (pc' := 276) C239 X248 at_273 ((if0 _ _).trans (feq (x := (if by8 leL = by8 (leL.set ((p3 &&& (2147483647 : Int32)) % (15 : Int32)).toNatClampNeg (p4 &&& (65535 : Int32))) then (1 : Int32) else 0)) (y := (0 : Int32)) hc273_254).1) rfl ?_
                refine Go.getS (pc' := 279) (host := "") C239 X248 (Or.inl (tw hw 48 rfl)) Via.refl e248 (Sle.ext O253) at_276 rfl ?_
                intro T281 X281 e281
                refine Go.astore (Ls' := #[.val (.int p1), .val (.int p2), .val (.int p3), .val (.int p4), .val (.int p5), .val (.int p6), .val (.int d6), .val (.int (p4 &&& (65535 : Int32))), .val (.int (p1 &&& (7 : Int32))), .val (.ref b232), .val (.ref le0), .val (.int ((p3 &&& (2147483647 : Int32)) % (15 : Int32)))]) (pc' := 281) C239 X281 at_279 rfl rfl rfl ?_
                refine Go.goto (pc' := 305) C239 X281 at_281 (by decide) (by decide) ?_
                refine Go.aload (pc' := 307) C239 X281 at_305 rfl rfl rfl ?_
                have ne283 : tle ≠ b232 := Nat.ne_of_lt (Nat.lt_of_lt_of_le (Nat.lt_of_lt_of_le le_0.lt O0.1) (Nat.le_trans (Nat.le_trans (Nat.le_trans (Nat.le_refl _) K228.1) (Nat.le_of_eq W230.size.symm)) (Nat.le_of_eq g232.symm)))
                have ne284 : tda ≠ b232 := Nat.ne_of_lt (Nat.lt_of_lt_of_le (Nat.lt_of_lt_of_le da_0.lt O0.1) (Nat.le_trans (Nat.le_trans (Nat.le_trans (Nat.le_refl _) K228.1) (Nat.le_of_eq W230.size.symm)) (Nat.le_of_eq g232.symm)))
                refine Go.callS (y := mN0) (pc' := 310) C239 X281 (tw hw 51 rfl) (tw hw 52 rfl) (by decide) (rm_nmLle l Z a0 hw va vk le0 tle lev lek da0 tda dav dak b232 cP v_235 kv_235 ((leL.set ((p3 &&& (2147483647 : Int32)) % (15 : Int32)).toNatClampNeg (p4 &&& (65535 : Int32)))) h239 O253 SV Ev Av Tle le_0 le_1 le_2 le_3 Tda da_0 da_1 da_2 da_3 c249 c250 c251 c252 SC hP ne283 ne284 (by rw [hlen]; decide) (own_ifn hc273_254)) (tw hw 53 rfl) (tw hw 49 rfl) e281 (argsL := [(.ref b232)]) (rest := []) (W := 0) rfl rfl pd_13 rfl (Nat.le_of_eq rfl) rfl (by decide) (by decide) (by decide) (by decide) at_307 rfl ?_
                intro T282 v282 L282 X282 q282
                obtain ⟨rfl, N282q, K282⟩ := q282
                have N282 := Fr.app N248 N282q
                have Hr285 := CHr.trans Hr242 (CHr.keep K282 all0 Hr242.1)
                refine Go.aload (pc' := 312) C239 X282 at_310 rfl rfl rfl ?_
                refine Go.acmpNo (pc' := 315) C239 X282 at_312 rfl rfl (XT.aa_ne_f rfl) rfl ?_
                refine Go.iconst (z := (1 : Int32)) (pc' := 316) C239 X282 at_315 rfl rfl ?_
                refine Go.goto (pc' := 320) C239 X282 at_316 (by decide) (by decide) ?_
                have K286 : Keep h0 T282.heap [] := (((((((Keep.refl h0 []).trans K228 all0).wr W230 (Or.inr z_a_228)).ext E232).trans K235 (allS (Or.inr z_b232) all0)).ext E239).trans K282 all0)
                have Si287 : Sin s sC239 T282.heap := Sin.mono Si239 (Nat.le_trans (Nat.le_refl _) K282.1)
                exact Go.retNH C239 X282 Si287 (EWc hw) Hr285 rfl at_320 (by simp) ⟨rfl, N282, K286⟩ (by decide) (by decide)
            · have c289 : AL Z h232 a_228 ka_228 .char (ch16 (leL.set ((p3 &&& (2147483647 : Int32)) % (15 : Int32)).toNatClampNeg (p4 &&& (65535 : Int32)))) := (AL.ext E232 A230)
              have O290 : Ext Z.heap h232 := (Ext.trans O233 E232)
              refine Go.callI (y := mN8) (a := b232) (pc' := 115) C X232 rfl (tw hw 9 rfl) (tw hw 10 rfl) (by decide) (rm_sU1 l Z a0 hw b232 a_228 ka_228 ((leL.set ((p3 &&& (2147483647 : Int32)) % (15 : Int32)).toNatClampNeg (p4 &&& (65535 : Int32)))) j xj cP h232 O290 A232 F232_value F232_coder c289 SC SH SLo SAd (by rw [hlen]; decide) hj hx hx2 hb hP n_b232) (tw hw 11 rfl) (tw hw 3 rfl) e232 (argsL := [(.ref a_228)]) (rest := [(.ref b232)]) (W := 1) rfl rfl pd_12 rfl (Nat.le_of_eq rfl) rfl (by decide) (by decide) (by decide) (by decide) rfl at_112 rfl ?_
              intro T288 v288 L288 X288 q288
              obtain ⟨v_288, kv_288, ys_288, rfl, N288q, K288, B288_0, P288_0, P288_1, P288_2⟩ := q288
              have N288 := Fr.app N230 N288q
              have Hr291 := CHr.trans Hr234 (CHr.keep K288 (allS s_b232 all0) Hr234.1)
              have n_v_288 : Z.heap.size ≤ v_288 := Nat.le_trans O290.1 B288_0
              have z_v_288 : h0.size ≤ v_288 := Nat.le_trans (Nat.le_trans (Nat.le_trans (Nat.le_trans (Nat.le_refl _) K228.1) (Nat.le_of_eq W230.size.symm)) E232.1) B288_0
              have s_v_288 : Safe Z consts_1 s.vm T288.heap v_288 := Safe.keep K288 (allS s_b232 all0) Hr234.1 (Safe.new B288_0)
              refine Go.astore (Ls' := #[.val (.int p1), .val (.int p2), .val (.int p3), .val (.int p4), .val (.int p5), .val (.int p6), .val (.int d6), .val (.int (p4 &&& (65535 : Int32))), .val (.int (p1 &&& (7 : Int32))), .val (.ref b232), .val (.ref a_228), .val (.int ((p3 &&& (2147483647 : Int32)) % (15 : Int32)))]) (pc' := 117) C X288 at_115 rfl rfl rfl ?_
              refine Go.goto (pc' := 266) C X288 at_117 (by decide) (by decide) ?_
              have O293 : Ext Z.heap T288.heap := (Ext.keep O290 K288 (allS n_b232 all0))
              have Si294 : Sin s s T288.heap := Sin.mono Si0 (Nat.le_trans (Nat.le_trans (Nat.le_trans (Nat.le_trans (Nat.le_refl _) K228.1) (Nat.le_of_eq W230.size.symm)) E232.1) K288.1)
              refine Go.ldcH (pc' := 268) (n := 60) (vs := [(.int (108 : Int32)), (.int (97 : Int32)), (.int (119 : Int32)), (.int (45 : Int32)), (.int (101 : Int32)), (.int (110 : Int32)), (.int (102 : Int32)), (.int (111 : Int32)), (.int (114 : Int32)), (.int (99 : Int32)), (.int (101 : Int32)), (.int (109 : Int32)), (.int (101 : Int32)), (.int (110 : Int32)), (.int (116 : Int32))]) (z := (15 : Int32)) C X288 Si294 (EWc hw) Hr291.1 (tw hw 35 rfl) (wS hw) rfl (by decide) (by decide) (by decide) (by decide) (by decide) (by decide) (by decide) (by decide) at_266 rfl ?_
              intro T292 h292 b292 sC292 v292 k292 C292 X292 e292 Si292 E292 hR292 A292 F292c F292v B292 hne292
              have Hr295 := CHr.trans Hr291 hR292
              have ne296 : a_228 ≠ b232 := Nat.ne_of_lt (Nat.lt_of_lt_of_le P228_0.lt (Nat.le_trans (Nat.le_trans (Nat.le_refl _) (Nat.le_of_eq W230.size.symm)) (Nat.le_of_eq g232.symm)))
              have c297 : AL Z h292 a_228 ka_228 .char (ch16 (leL.set ((p3 &&& (2147483647 : Int32)) % (15 : Int32)).toNatClampNeg (p4 &&& (65535 : Int32)))) := (AL.ext E292 (AL.keep c289 K288 (ninS ne296 nin0)))
              have hx292_a_228 := hne292 a_228 (Safe.al C292.2.1.alike c297 (by decide))
              have sa298 : Safe Z consts_1 sC292.vm h292 b232 := (CHr.safe hR292 (Nat.lt_of_lt_of_le A232.lt (Nat.le_trans (Nat.le_refl _) K288.1)) (Safe.keep K288 (allS s_b232 all0) Hr234.1 s_b232))
              have hx292_b232 := hne292 b232 sa298
              have sa299 : Safe Z consts_1 sC292.vm h292 v_288 := (CHr.safe hR292 (Nat.lt_of_lt_of_le P288_2.lt (Nat.le_refl _)) s_v_288)
              have hx292_v_288 := hne292 v_288 sa299
              have tx300 : AL Z h292 v292 k292 .byte (by8 leL) := leV ▸ B292
              refine Go.aload (pc' := 270) C292 X292 at_268 rfl rfl rfl ?_
              have c302 : Exa Z h292 b232 "java/lang/String" := (Exa.ext E292 (Exa.keep A232 K288))
              have c303 : Fld Z h292 b232 "java/lang/String" "coder" "B" (.int (1 : Int32)) := (Fld.ext E292 P288_1)
              have O304 : Ext Z.heap h292 := (Ext.trans O293 E292)
              refine Go.callV (y := mN10) (z := mN10) (a := b292) (pc' := 273) C292 X292 (tw hw 38 rfl) (tw hw 39 rfl) (notFace_at C292.2.1 (tw hw 41 rfl)) (tw hw 41 rfl) (tw hw 40 rfl) A292 (by decide) (rm_eqC l Z a0 hw b292 b232 cP h292 O304 SC A292 F292c c302 c303 (Ne.symm hx292_b232.1) hP) (tw hw 42 rfl) (tw hw 3 rfl) e292 (argsL := [(.ref b232)]) (rest := []) (W := 0) rfl rfl pd_10 rfl (Nat.le_of_eq rfl) rfl (by decide) (by decide) (by decide) (by decide) at_270 rfl ?_
              intro T301 v301 L301 X301 q301
              obtain ⟨rfl, rfl, e301⟩ := q301
              have N301 := Fr.app N288 (Fr.nil _)
              refine Go.ifYes (pc' := 284) C292 X301 at_273 ((if0 _ _).trans (teq (x := (0 : Int32)) (y := (0 : Int32)) (by decide)).1) (by decide) (by decide) ?_
              refine Go.ldcH (pc' := 286) (n := 68) (vs := [(.int (100 : Int32)), (.int (105 : Int32)), (.int (115 : Int32)), (.int (116 : Int32)), (.int (114 : Int32)), (.int (105 : Int32)), (.int (99 : Int32)), (.int (116 : Int32)), (.int (45 : Int32)), (.int (97 : Int32)), (.int (116 : Int32)), (.int (116 : Int32)), (.int (111 : Int32)), (.int (114 : Int32)), (.int (110 : Int32)), (.int (101 : Int32)), (.int (121 : Int32))]) (z := (17 : Int32)) C292 X301 Si292 (EWc hw) Hr295.1 (tw hw 76 rfl) (wS hw) e301 (by decide) (by decide) (by decide) (by decide) (by decide) (by decide) (by decide) (by decide) at_284 rfl ?_
              intro T306 h306 b306 sC306 v306 k306 C306 X306 e306 Si306 E306 hR306 A306 F306c F306v B306 hne306
              have Hr307 := CHr.trans Hr295 hR306
              have c308 : AL Z h306 a_228 ka_228 .char (ch16 (leL.set ((p3 &&& (2147483647 : Int32)) % (15 : Int32)).toNatClampNeg (p4 &&& (65535 : Int32)))) := (AL.ext E306 c297)
              have hx306_a_228 := hne306 a_228 (Safe.al C306.2.1.alike c308 (by decide))
              have sa309 : Safe Z consts_1 sC306.vm h306 b232 := (CHr.safe hR306 (Nat.lt_of_lt_of_le A232.lt (Nat.le_trans (Nat.le_trans (Nat.le_refl _) K288.1) E292.1)) sa298)
              have hx306_b232 := hne306 b232 sa309
              have sa310 : Safe Z consts_1 sC306.vm h306 v_288 := (CHr.safe hR306 (Nat.lt_of_lt_of_le P288_2.lt (Nat.le_trans (Nat.le_refl _) E292.1)) sa299)
              have hx306_v_288 := hne306 v_288 sa310
              have tx311 : AL Z h306 v306 k306 .byte (by8 daL) := daV ▸ B306
              refine Go.aload (pc' := 288) C306 X306 at_286 rfl rfl rfl ?_
              have c313 : Exa Z h306 b232 "java/lang/String" := (Exa.ext E306 c302)
              have c314 : Fld Z h306 b232 "java/lang/String" "coder" "B" (.int (1 : Int32)) := (Fld.ext E306 c303)
              have O315 : Ext Z.heap h306 := (Ext.trans O304 E306)
              refine Go.callV (y := mN10) (z := mN10) (a := b306) (pc' := 291) C306 X306 (tw hw 38 rfl) (tw hw 39 rfl) (notFace_at C306.2.1 (tw hw 41 rfl)) (tw hw 41 rfl) (tw hw 40 rfl) A306 (by decide) (rm_eqC l Z a0 hw b306 b232 cP h306 O315 SC A306 F306c c313 c314 (Ne.symm hx306_b232.1) hP) (tw hw 42 rfl) (tw hw 3 rfl) e306 (argsL := [(.ref b232)]) (rest := []) (W := 0) rfl rfl pd_10 rfl (Nat.le_of_eq rfl) rfl (by decide) (by decide) (by decide) (by decide) at_288 rfl ?_
              intro T312 v312 L312 X312 q312
              obtain ⟨rfl, rfl, e312⟩ := q312
              have N312 := Fr.app N301 (Fr.nil _)
              refine Go.ifYes (pc' := 302) C306 X312 at_291 ((if0 _ _).trans (teq (x := (0 : Int32)) (y := (0 : Int32)) (by decide)).1) (by decide) (by decide) ?_
              refine Go.aconstNull (pc' := 303) C306 X312 at_302 rfl ?_
              refine Go.astore (Ls' := #[.val (.int p1), .val (.int p2), .val (.int p3), .val (.int p4), .val (.int p5), .val (.int p6), .val (.int d6), .val (.int (p4 &&& (65535 : Int32))), .val (.int (p1 &&& (7 : Int32))), .val (.ref b232), .val .null, .val (.int ((p3 &&& (2147483647 : Int32)) % (15 : Int32)))]) (pc' := 305) C306 X312 at_303 rfl rfl rfl ?_
              refine Go.aload (pc' := 307) C306 X312 at_305 rfl rfl rfl ?_
              have ne318 : tle ≠ b232 := Nat.ne_of_lt (Nat.lt_of_lt_of_le (Nat.lt_of_lt_of_le le_0.lt O0.1) (Nat.le_trans (Nat.le_trans (Nat.le_trans (Nat.le_refl _) K228.1) (Nat.le_of_eq W230.size.symm)) (Nat.le_of_eq g232.symm)))
              have ne319 : tda ≠ b232 := Nat.ne_of_lt (Nat.lt_of_lt_of_le (Nat.lt_of_lt_of_le da_0.lt O0.1) (Nat.le_trans (Nat.le_trans (Nat.le_trans (Nat.le_refl _) K228.1) (Nat.le_of_eq W230.size.symm)) (Nat.le_of_eq g232.symm)))
              refine Go.callS (y := mN0) (pc' := 310) C306 X312 (tw hw 51 rfl) (tw hw 52 rfl) (by decide) (rm_nmUno l Z a0 hw va vk le0 tle lev lek da0 tda dav dak b232 cP h306 O315 SV Ev Av Tle le_0 le_1 le_2 le_3 Tda da_0 da_1 da_2 da_3 c313 c314 SC hP ne318 ne319) (tw hw 53 rfl) (tw hw 49 rfl) e312 (argsL := [(.ref b232)]) (rest := []) (W := 0) rfl rfl pd_13 rfl (Nat.le_of_eq rfl) rfl (by decide) (by decide) (by decide) (by decide) at_307 rfl ?_
              intro T317 v317 L317 X317 q317
              obtain ⟨rfl, N317q, K317⟩ := q317
              have N317 := Fr.app N312 N317q
              have Hr320 := CHr.trans Hr307 (CHr.keep K317 all0 Hr307.1)
              refine Go.aload (pc' := 312) C306 X317 at_310 rfl rfl rfl ?_
              refine Go.acmpNo (pc' := 315) C306 X317 at_312 rfl rfl (XT.aa_ne_f rfl) rfl ?_
              refine Go.iconst (z := (1 : Int32)) (pc' := 316) C306 X317 at_315 rfl rfl ?_
              refine Go.goto (pc' := 320) C306 X317 at_316 (by decide) (by decide) ?_
              have K321 : Keep h0 T317.heap [] := ((((((((Keep.refl h0 []).trans K228 all0).wr W230 (Or.inr z_a_228)).ext E232).trans K288 (allS (Or.inr z_b232) all0)).ext E292).ext E306).trans K317 all0)
              have Si322 : Sin s sC306 T317.heap := Sin.mono Si306 (Nat.le_trans (Nat.le_refl _) K317.1)
              exact Go.retNH C306 X317 Si322 (EWc hw) Hr320 rfl at_320 (by simp) ⟨rfl, N317, K321⟩ (by decide) (by decide)
          · refine Go.ifNo (pc' := 78) C X101 at_75 ((if0 _ _).trans (feq (x := d6) (y := (0 : Int32)) hc75_227).1) rfl ?_
            refine Go.callS (y := mN2) (pc' := 81) C X101 (tw hw 107 rfl) (tw hw 108 rfl) (by decide) (rm_ar_da l Z a0 hw  h0 O0 ) (tw hw 109 rfl) (tw hw 6 rfl) e101 (argsL := []) (rest := []) (W := 0) rfl rfl pd_11 rfl (Nat.le_of_eq rfl) rfl (by decide) (by decide) (by decide) (by decide) at_78 rfl ?_
            intro T323 v323 L323 X323 q323
            obtain ⟨a_323, ka_323, rfl, N323q, K323, B323_0, P323_0⟩ := q323
            have N323 := Fr.app N101 N323q
            have Hr324 := CHr.trans Hr0 (CHr.keep K323 all0 Hr0.1)
            have n_a_323 : Z.heap.size ≤ a_323 := Nat.le_trans O0.1 B323_0
            have z_a_323 : h0.size ≤ a_323 := Nat.le_trans (Nat.le_refl _) B323_0
            have s_a_323 : Safe Z consts_1 s.vm T323.heap a_323 := Safe.keep K323 all0 Hr0.1 (Safe.new B323_0)
            refine Go.goto (pc' := 87) C X323 at_81 (by decide) (by decide) ?_
            refine Go.astore (Ls' := #[.val (.int p1), .val (.int p2), .val (.int p3), .val (.int p4), .val (.int p5), .val (.int p6), .val (.int d6), .val (.int (p4 &&& (65535 : Int32))), .val (.int (p1 &&& (7 : Int32))), .unset, .val (.ref a_323), .unset]) (pc' := 89) C X323 at_87 rfl rfl rfl ?_
            refine Go.iloadN (pc' := 90) C X323 at_89 rfl rfl ?_
            refine Go.ldcI (pc' := 92) C X323 at_90 (tw hw 81 rfl) rfl ?_
            refine Go.iand (pc' := 93) C X323 at_92 rfl ?_
            refine Go.aload (pc' := 95) C X323 at_93 rfl rfl rfl ?_
            refine Go.alen (z := (17 : Int32)) (pc' := 96) C X323 rfl P323_0 rfl at_95 rfl ?_
            refine Go.irem (pc' := 97) C X323 at_96 (by decide) rfl ?_
            refine Go.istore (Ls' := #[.val (.int p1), .val (.int p2), .val (.int p3), .val (.int p4), .val (.int p5), .val (.int p6), .val (.int d6), .val (.int (p4 &&& (65535 : Int32))), .val (.int (p1 &&& (7 : Int32))), .unset, .val (.ref a_323), .val (.int ((p3 &&& (2147483647 : Int32)) % (17 : Int32)))]) (pc' := 99) C X323 at_97 rfl rfl ?_
            refine Go.aload (pc' := 101) C X323 at_99 rfl rfl rfl ?_
            refine Go.iload (pc' := 103) C X323 at_101 rfl rfl ?_
            refine Go.iload (pc' := 105) C X323 at_103 rfl rfl ?_
            refine Go.stC (i := ((p3 &&& (2147483647 : Int32)) % (17 : Int32)).toNatClampNeg) (x' := (p4 &&& (65535 : Int32))) (vs' := (ch16 (daL.set ((p3 &&& (2147483647 : Int32)) % (17 : Int32)).toNatClampNeg (p4 &&& (65535 : Int32))))) (pc' := 106) C X323 rfl P323_0 (ix (k := 17) (by decide) (by decide)).1 rfl (by rw [ch16_len]; exact (ix (k := 17) (by decide) (by decide)).2) (n16 _) (ch16_set _ _ _) at_105 rfl ?_
            intro T325 h325 X325 e325 W325 A325
            have Hr326 := CHr.trans Hr324 (CHr.wr W325 (Safe.al C.2.1.alike P323_0 (by decide)) Hr324.1)
            have N325 := Fr.snoc X325 N323 n_a_323
            have O328 : Ext Z.heap h325 := (Ext.wr (Ext.keep O0 K323 all0) W325 n_a_323)
            refine Go.newO (pc' := 109) C X325 (tw hw 1 rfl) (tw hw 2 rfl) (tw hw 3 rfl) e325 (by decide) (by decide) at_106 rfl ?_
            intro T327 h327 b327 X327 e327 g327 E327 A327 D327
            have Hr329 := CHr.trans Hr326 (CHr.ext E327 Hr326.1)
            have n_b327 : Z.heap.size ≤ b327 := Nat.le_trans O328.1 (Nat.le_of_eq g327.symm)
            have z_b327 : h0.size ≤ b327 := Nat.le_trans (Nat.le_trans (Nat.le_trans (Nat.le_refl _) K323.1) (Nat.le_of_eq W325.size.symm)) (Nat.le_of_eq g327.symm)
            have s_b327 : Safe Z consts_1 s.vm h327 b327 := Safe.ext E327 Hr326.1 (Safe.new (Nat.le_of_eq g327.symm))
            have F327_coder : Fld Z h327 b327 "java/lang/String" "coder" "B" (.int (0 : Int32)) := D327 (Or.inr (tw hw 32 rfl)) (ty := .byte) (by decide)
            have F327_value : Fld Z h327 b327 "java/lang/String" "value" "[B" .null := D327 (Or.inr (tw hw 34 rfl)) (ty := (.array .byte)) (by decide)
            refine Go.dup (pc' := 110) C X327 at_109 rfl rfl ?_
            refine Go.aload (pc' := 112) C X327 at_110 rfl rfl rfl ?_
            have hlen : (daL.set ((p3 &&& (2147483647 : Int32)) % (17 : Int32)).toNatClampNeg (p4 &&& (65535 : Int32))).length = 17 := by rw [List.length_set]; rfl
            rcases split16 (daL.set ((p3 &&& (2147483647 : Int32)) % (17 : Int32)).toNatClampNeg (p4 &&& (65535 : Int32))) (set16 (by decide) (m16 p4)) with hAll | ⟨j, xj, hj, hx, hx2, hb⟩
            · have c331 : AL Z h327 a_323 ka_323 .char (ch16 (daL.set ((p3 &&& (2147483647 : Int32)) % (17 : Int32)).toNatClampNeg (p4 &&& (65535 : Int32)))) := (AL.ext E327 A325)
              have O332 : Ext Z.heap h327 := (Ext.trans O328 E327)
              refine Go.callI (y := mN8) (a := b327) (pc' := 115) C X327 rfl (tw hw 9 rfl) (tw hw 10 rfl) (by decide) (rm_sI1 l Z a0 hw b327 a_323 ka_323 ((daL.set ((p3 &&& (2147483647 : Int32)) % (17 : Int32)).toNatClampNeg (p4 &&& (65535 : Int32)))) cP h327 O332 A327 F327_value F327_coder c331 SC hAll (by rw [hlen]; decide) (by rw [hlen]; decide) (by rw [hlen]; decide) hP n_b327) (tw hw 11 rfl) (tw hw 3 rfl) e327 (argsL := [(.ref a_323)]) (rest := [(.ref b327)]) (W := 1) rfl rfl pd_12 rfl (Nat.le_of_eq rfl) rfl (by decide) (by decide) (by decide) (by decide) rfl at_112 rfl ?_
              intro T330 v330 L330 X330 q330
              obtain ⟨v_330, kv_330, rfl, N330q, K330, B330_0, P330_0, P330_1, P330_2⟩ := q330
              have N330 := Fr.app N325 N330q
              have Hr333 := CHr.trans Hr329 (CHr.keep K330 (allS s_b327 all0) Hr329.1)
              have n_v_330 : Z.heap.size ≤ v_330 := Nat.le_trans O332.1 B330_0
              have z_v_330 : h0.size ≤ v_330 := Nat.le_trans (Nat.le_trans (Nat.le_trans (Nat.le_trans (Nat.le_refl _) K323.1) (Nat.le_of_eq W325.size.symm)) E327.1) B330_0
              have s_v_330 : Safe Z consts_1 s.vm T330.heap v_330 := Safe.keep K330 (allS s_b327 all0) Hr329.1 (Safe.new B330_0)
              refine Go.astore (Ls' := #[.val (.int p1), .val (.int p2), .val (.int p3), .val (.int p4), .val (.int p5), .val (.int p6), .val (.int d6), .val (.int (p4 &&& (65535 : Int32))), .val (.int (p1 &&& (7 : Int32))), .val (.ref b327), .val (.ref a_323), .val (.int ((p3 &&& (2147483647 : Int32)) % (17 : Int32)))]) (pc' := 117) C X330 at_115 rfl rfl rfl ?_
              refine Go.goto (pc' := 266) C X330 at_117 (by decide) (by decide) ?_
              have O335 : Ext Z.heap T330.heap := (Ext.keep O332 K330 (allS n_b327 all0))
              have Si336 : Sin s s T330.heap := Sin.mono Si0 (Nat.le_trans (Nat.le_trans (Nat.le_trans (Nat.le_trans (Nat.le_refl _) K323.1) (Nat.le_of_eq W325.size.symm)) E327.1) K330.1)
              refine Go.ldcH (pc' := 268) (n := 60) (vs := [(.int (108 : Int32)), (.int (97 : Int32)), (.int (119 : Int32)), (.int (45 : Int32)), (.int (101 : Int32)), (.int (110 : Int32)), (.int (102 : Int32)), (.int (111 : Int32)), (.int (114 : Int32)), (.int (99 : Int32)), (.int (101 : Int32)), (.int (109 : Int32)), (.int (101 : Int32)), (.int (110 : Int32)), (.int (116 : Int32))]) (z := (15 : Int32)) C X330 Si336 (EWc hw) Hr333.1 (tw hw 35 rfl) (wS hw) rfl (by decide) (by decide) (by decide) (by decide) (by decide) (by decide) (by decide) (by decide) at_266 rfl ?_
              intro T334 h334 b334 sC334 v334 k334 C334 X334 e334 Si334 E334 hR334 A334 F334c F334v B334 hne334
              have Hr337 := CHr.trans Hr333 hR334
              have ne338 : a_323 ≠ b327 := Nat.ne_of_lt (Nat.lt_of_lt_of_le P323_0.lt (Nat.le_trans (Nat.le_trans (Nat.le_refl _) (Nat.le_of_eq W325.size.symm)) (Nat.le_of_eq g327.symm)))
              have c339 : AL Z h334 a_323 ka_323 .char (ch16 (daL.set ((p3 &&& (2147483647 : Int32)) % (17 : Int32)).toNatClampNeg (p4 &&& (65535 : Int32)))) := (AL.ext E334 (AL.keep c331 K330 (ninS ne338 nin0)))
              have hx334_a_323 := hne334 a_323 (Safe.al C334.2.1.alike c339 (by decide))
              have sa340 : Safe Z consts_1 sC334.vm h334 b327 := (CHr.safe hR334 (Nat.lt_of_lt_of_le A327.lt (Nat.le_trans (Nat.le_refl _) K330.1)) (Safe.keep K330 (allS s_b327 all0) Hr329.1 s_b327))
              have hx334_b327 := hne334 b327 sa340
              have sa341 : Safe Z consts_1 sC334.vm h334 v_330 := (CHr.safe hR334 (Nat.lt_of_lt_of_le P330_2.lt (Nat.le_refl _)) s_v_330)
              have hx334_v_330 := hne334 v_330 sa341
              have tx342 : AL Z h334 v334 k334 .byte (by8 leL) := leV ▸ B334
              refine Go.aload (pc' := 270) C334 X334 at_268 rfl rfl rfl ?_
              have c344 : Exa Z h334 b327 "java/lang/String" := (Exa.ext E334 (Exa.keep A327 K330))
              have c345 : Fld Z h334 b327 "java/lang/String" "value" "[B" (.ref v_330) := (Fld.ext E334 P330_0)
              have c346 : Fld Z h334 b327 "java/lang/String" "coder" "B" (.int (0 : Int32)) := (Fld.ext E334 P330_1)
              have c347 : AL Z h334 v_330 kv_330 .byte (by8 (daL.set ((p3 &&& (2147483647 : Int32)) % (17 : Int32)).toNatClampNeg (p4 &&& (65535 : Int32)))) := (AL.ext E334 P330_2)
              have O348 : Ext Z.heap h334 := (Ext.trans O335 E334)
              refine Go.callV (y := mN10) (z := mN10) (a := b334) (pc' := 273) C334 X334 (tw hw 38 rfl) (tw hw 39 rfl) (notFace_at C334.2.1 (tw hw 41 rfl)) (tw hw 41 rfl) (tw hw 40 rfl) A334 (by decide) (rm_eqS l Z a0 hw b334 b327 v334 v_330 k334 kv_330 leL ((daL.set ((p3 &&& (2147483647 : Int32)) % (17 : Int32)).toNatClampNeg (p4 &&& (65535 : Int32)))) cP h334 O348 SC A334 F334v F334c tx342 c344 c345 c346 c347 (Ne.symm hx334_b327.1) hP (by decide) (by rw [hlen]; decide)) (tw hw 42 rfl) (tw hw 3 rfl) e334 (argsL := [(.ref b327)]) (rest := []) (W := 0) rfl rfl pd_10 rfl (Nat.le_of_eq rfl) rfl (by decide) (by decide) (by decide) (by decide) at_270 rfl ?_
              intro T343 v343 L343 X343 q343
              obtain ⟨rfl, rfl, e343⟩ := q343
              have N343 := Fr.app N330 (Fr.nil _)
              by_cases hc273_349 : (if by8 leL = by8 (daL.set ((p3 &&& (2147483647 : Int32)) % (17 : Int32)).toNatClampNeg (p4 &&& (65535 : Int32))) then (1 : Int32) else 0) = (0 : Int32)
              · refine Go.ifYes (pc' := 284) C334 X343 at_273 ((if0 _ _).trans (teq (x := (if by8 leL = by8 (daL.set ((p3 &&& (2147483647 : Int32)) % (17 : Int32)).toNatClampNeg (p4 &&& (65535 : Int32))) then (1 : Int32) else 0)) (y := (0 : Int32)) hc273_349).1) (by decide) (by decide) ?_
                refine Go.ldcH (pc' := 286) (n := 68) (vs := [(.int (100 : Int32)), (.int (105 : Int32)), (.int (115 : Int32)), (.int (116 : Int32)), (.int (114 : Int32)), (.int (105 : Int32)), (.int (99 : Int32)), (.int (116 : Int32)), (.int (45 : Int32)), (.int (97 : Int32)), (.int (116 : Int32)), (.int (116 : Int32)), (.int (111 : Int32)), (.int (114 : Int32)), (.int (110 : Int32)), (.int (101 : Int32)), (.int (121 : Int32))]) (z := (17 : Int32)) C334 X343 Si334 (EWc hw) Hr337.1 (tw hw 76 rfl) (wS hw) e343 (by decide) (by decide) (by decide) (by decide) (by decide) (by decide) (by decide) (by decide) at_284 rfl ?_
                intro T350 h350 b350 sC350 v350 k350 C350 X350 e350 Si350 E350 hR350 A350 F350c F350v B350 hne350
                have Hr351 := CHr.trans Hr337 hR350
                have c352 : AL Z h350 a_323 ka_323 .char (ch16 (daL.set ((p3 &&& (2147483647 : Int32)) % (17 : Int32)).toNatClampNeg (p4 &&& (65535 : Int32)))) := (AL.ext E350 c339)
                have hx350_a_323 := hne350 a_323 (Safe.al C350.2.1.alike c352 (by decide))
                have sa353 : Safe Z consts_1 sC350.vm h350 b327 := (CHr.safe hR350 (Nat.lt_of_lt_of_le A327.lt (Nat.le_trans (Nat.le_trans (Nat.le_refl _) K330.1) E334.1)) sa340)
                have hx350_b327 := hne350 b327 sa353
                have sa354 : Safe Z consts_1 sC350.vm h350 v_330 := (CHr.safe hR350 (Nat.lt_of_lt_of_le P330_2.lt (Nat.le_trans (Nat.le_refl _) E334.1)) sa341)
                have hx350_v_330 := hne350 v_330 sa354
                have tx355 : AL Z h350 v350 k350 .byte (by8 daL) := daV ▸ B350
                refine Go.aload (pc' := 288) C350 X350 at_286 rfl rfl rfl ?_
                have c357 : Exa Z h350 b327 "java/lang/String" := (Exa.ext E350 c344)
                have c358 : Fld Z h350 b327 "java/lang/String" "value" "[B" (.ref v_330) := (Fld.ext E350 c345)
                have c359 : Fld Z h350 b327 "java/lang/String" "coder" "B" (.int (0 : Int32)) := (Fld.ext E350 c346)
                have c360 : AL Z h350 v_330 kv_330 .byte (by8 (daL.set ((p3 &&& (2147483647 : Int32)) % (17 : Int32)).toNatClampNeg (p4 &&& (65535 : Int32)))) := (AL.ext E350 c347)
                have O361 : Ext Z.heap h350 := (Ext.trans O348 E350)
                refine Go.callV (y := mN10) (z := mN10) (a := b350) (pc' := 291) C350 X350 (tw hw 38 rfl) (tw hw 39 rfl) (notFace_at C350.2.1 (tw hw 41 rfl)) (tw hw 41 rfl) (tw hw 40 rfl) A350 (by decide) (rm_eqS l Z a0 hw b350 b327 v350 v_330 k350 kv_330 daL ((daL.set ((p3 &&& (2147483647 : Int32)) % (17 : Int32)).toNatClampNeg (p4 &&& (65535 : Int32)))) cP h350 O361 SC A350 F350v F350c tx355 c357 c358 c359 c360 (Ne.symm hx350_b327.1) hP (by decide) (by rw [hlen]; decide)) (tw hw 42 rfl) (tw hw 3 rfl) e350 (argsL := [(.ref b327)]) (rest := []) (W := 0) rfl rfl pd_10 rfl (Nat.le_of_eq rfl) rfl (by decide) (by decide) (by decide) (by decide) at_288 rfl ?_
                intro T356 v356 L356 X356 q356
                obtain ⟨rfl, rfl, e356⟩ := q356
                have N356 := Fr.app N343 (Fr.nil _)
                by_cases hc291_362 : (if by8 daL = by8 (daL.set ((p3 &&& (2147483647 : Int32)) % (17 : Int32)).toNatClampNeg (p4 &&& (65535 : Int32))) then (1 : Int32) else 0) = (0 : Int32)
                · refine Go.ifYes (pc' := 302) C350 X356 at_291 ((if0 _ _).trans (teq (x := (if by8 daL = by8 (daL.set ((p3 &&& (2147483647 : Int32)) % (17 : Int32)).toNatClampNeg (p4 &&& (65535 : Int32))) then (1 : Int32) else 0)) (y := (0 : Int32)) hc291_362).1) (by decide) (by decide) ?_
                  refine Go.aconstNull (pc' := 303) C350 X356 at_302 rfl ?_
                  refine Go.astore (Ls' := #[.val (.int p1), .val (.int p2), .val (.int p3), .val (.int p4), .val (.int p5), .val (.int p6), .val (.int d6), .val (.int (p4 &&& (65535 : Int32))), .val (.int (p1 &&& (7 : Int32))), .val (.ref b327), .val .null, .val (.int ((p3 &&& (2147483647 : Int32)) % (17 : Int32)))]) (pc' := 305) C350 X356 at_303 rfl rfl rfl ?_
                  refine Go.aload (pc' := 307) C350 X356 at_305 rfl rfl rfl ?_
                  have ne364 : tle ≠ b327 := Nat.ne_of_lt (Nat.lt_of_lt_of_le (Nat.lt_of_lt_of_le le_0.lt O0.1) (Nat.le_trans (Nat.le_trans (Nat.le_trans (Nat.le_refl _) K323.1) (Nat.le_of_eq W325.size.symm)) (Nat.le_of_eq g327.symm)))
                  have ne365 : tda ≠ b327 := Nat.ne_of_lt (Nat.lt_of_lt_of_le (Nat.lt_of_lt_of_le da_0.lt O0.1) (Nat.le_trans (Nat.le_trans (Nat.le_trans (Nat.le_refl _) K323.1) (Nat.le_of_eq W325.size.symm)) (Nat.le_of_eq g327.symm)))
                  refine Go.callS (y := mN0) (pc' := 310) C350 X356 (tw hw 51 rfl) (tw hw 52 rfl) (by decide) (rm_nmLno l Z a0 hw va vk le0 tle lev lek da0 tda dav dak b327 cP v_330 kv_330 ((daL.set ((p3 &&& (2147483647 : Int32)) % (17 : Int32)).toNatClampNeg (p4 &&& (65535 : Int32)))) h350 O361 SV Ev Av Tle le_0 le_1 le_2 le_3 Tda da_0 da_1 da_2 da_3 c357 c358 c359 c360 SC hP ne364 ne365 (by rw [hlen]; decide) (own_ifz hc273_349) (own_ifz hc291_362)) (tw hw 53 rfl) (tw hw 49 rfl) e356 (argsL := [(.ref b327)]) (rest := []) (W := 0) rfl rfl pd_13 rfl (Nat.le_of_eq rfl) rfl (by decide) (by decide) (by decide) (by decide) at_307 rfl ?_
                  intro T363 v363 L363 X363 q363
                  obtain ⟨rfl, N363q, K363⟩ := q363
                  have N363 := Fr.app N356 N363q
                  have Hr366 := CHr.trans Hr351 (CHr.keep K363 all0 Hr351.1)
                  refine Go.aload (pc' := 312) C350 X363 at_310 rfl rfl rfl ?_
                  refine Go.acmpNo (pc' := 315) C350 X363 at_312 rfl rfl (XT.aa_ne_f rfl) rfl ?_
                  refine Go.iconst (z := (1 : Int32)) (pc' := 316) C350 X363 at_315 rfl rfl ?_
                  refine Go.goto (pc' := 320) C350 X363 at_316 (by decide) (by decide) ?_
                  have K367 : Keep h0 T363.heap [] := ((((((((Keep.refl h0 []).trans K323 all0).wr W325 (Or.inr z_a_323)).ext E327).trans K330 (allS (Or.inr z_b327) all0)).ext E334).ext E350).trans K363 all0)
                  have Si368 : Sin s sC350 T363.heap := Sin.mono Si350 (Nat.le_trans (Nat.le_refl _) K363.1)
                  exact Go.retNH C350 X363 Si368 (EWc hw) Hr366 rfl at_320 (by simp) ⟨rfl, N363, K367⟩ (by decide) (by decide)
                · refine Go.ifNo (pc' := 294) C350 X356 at_291 ((if0 _ _).trans (feq (x := (if by8 daL = by8 (daL.set ((p3 &&& (2147483647 : Int32)) % (17 : Int32)).toNatClampNeg (p4 &&& (65535 : Int32))) then (1 : Int32) else 0)) (y := (0 : Int32)) hc291_362).1) rfl ?_
                  refine Go.getS (pc' := 297) (host := "") C350 X356 (Or.inl (tw hw 110 rfl)) Via.refl e356 (Sda.ext O361) at_294 rfl ?_
                  intro T369 X369 e369
                  refine Go.astore (Ls' := #[.val (.int p1), .val (.int p2), .val (.int p3), .val (.int p4), .val (.int p5), .val (.int p6), .val (.int d6), .val (.int (p4 &&& (65535 : Int32))), .val (.int (p1 &&& (7 : Int32))), .val (.ref b327), .val (.ref da0), .val (.int ((p3 &&& (2147483647 : Int32)) % (17 : Int32)))]) (pc' := 299) C350 X369 at_297 rfl rfl rfl ?_
                  refine Go.goto (pc' := 305) C350 X369 at_299 (by decide) (by decide) ?_
                  refine Go.aload (pc' := 307) C350 X369 at_305 rfl rfl rfl ?_
                  have ne371 : tle ≠ b327 := Nat.ne_of_lt (Nat.lt_of_lt_of_le (Nat.lt_of_lt_of_le le_0.lt O0.1) (Nat.le_trans (Nat.le_trans (Nat.le_trans (Nat.le_refl _) K323.1) (Nat.le_of_eq W325.size.symm)) (Nat.le_of_eq g327.symm)))
                  have ne372 : tda ≠ b327 := Nat.ne_of_lt (Nat.lt_of_lt_of_le (Nat.lt_of_lt_of_le da_0.lt O0.1) (Nat.le_trans (Nat.le_trans (Nat.le_trans (Nat.le_refl _) K323.1) (Nat.le_of_eq W325.size.symm)) (Nat.le_of_eq g327.symm)))
                  refine Go.callS (y := mN0) (pc' := 310) C350 X369 (tw hw 51 rfl) (tw hw 52 rfl) (by decide) (rm_nmLda l Z a0 hw va vk le0 tle lev lek da0 tda dav dak b327 cP v_330 kv_330 ((daL.set ((p3 &&& (2147483647 : Int32)) % (17 : Int32)).toNatClampNeg (p4 &&& (65535 : Int32)))) h350 O361 SV Ev Av Tle le_0 le_1 le_2 le_3 Tda da_0 da_1 da_2 da_3 c357 c358 c359 c360 SC hP ne371 ne372 (by rw [hlen]; decide) (own_ifz hc273_349) (own_ifn hc291_362)) (tw hw 53 rfl) (tw hw 49 rfl) e369 (argsL := [(.ref b327)]) (rest := []) (W := 0) rfl rfl pd_13 rfl (Nat.le_of_eq rfl) rfl (by decide) (by decide) (by decide) (by decide) at_307 rfl ?_
                  intro T370 v370 L370 X370 q370
                  obtain ⟨rfl, N370q, K370⟩ := q370
                  have N370 := Fr.app N356 N370q
                  have Hr373 := CHr.trans Hr351 (CHr.keep K370 all0 Hr351.1)
                  refine Go.aload (pc' := 312) C350 X370 at_310 rfl rfl rfl ?_
                  refine Go.acmpNo (pc' := 315) C350 X370 at_312 rfl rfl (XT.aa_ne_f rfl) rfl ?_
                  refine Go.iconst (z := (1 : Int32)) (pc' := 316) C350 X370 at_315 rfl rfl ?_
                  refine Go.goto (pc' := 320) C350 X370 at_316 (by decide) (by decide) ?_
                  have K374 : Keep h0 T370.heap [] := ((((((((Keep.refl h0 []).trans K323 all0).wr W325 (Or.inr z_a_323)).ext E327).trans K330 (allS (Or.inr z_b327) all0)).ext E334).ext E350).trans K370 all0)
                  have Si375 : Sin s sC350 T370.heap := Sin.mono Si350 (Nat.le_trans (Nat.le_refl _) K370.1)
                  exact Go.retNH C350 X370 Si375 (EWc hw) Hr373 rfl at_320 (by simp) ⟨rfl, N370, K374⟩ (by decide) (by decide)
              · refine Go.ifNo (pc' := 276) C334 X343 at_273 ((if0 _ _).trans (feq (x := (if by8 leL = by8 (daL.set ((p3 &&& (2147483647 : Int32)) % (17 : Int32)).toNatClampNeg (p4 &&& (65535 : Int32))) then (1 : Int32) else 0)) (y := (0 : Int32)) hc273_349).1) rfl ?_
                refine Go.getS (pc' := 279) (host := "") C334 X343 (Or.inl (tw hw 48 rfl)) Via.refl e343 (Sle.ext O348) at_276 rfl ?_
                intro T376 X376 e376
                refine Go.astore (Ls' := #[.val (.int p1), .val (.int p2), .val (.int p3), .val (.int p4), .val (.int p5), .val (.int p6), .val (.int d6), .val (.int (p4 &&& (65535 : Int32))), .val (.int (p1 &&& (7 : Int32))), .val (.ref b327), .val (.ref le0), .val (.int ((p3 &&& (2147483647 : Int32)) % (17 : Int32)))]) (pc' := 281) C334 X376 at_279 rfl rfl rfl ?_
                refine Go.goto (pc' := 305) C334 X376 at_281 (by decide) (by decide) ?_
                refine Go.aload (pc' := 307) C334 X376 at_305 rfl rfl rfl ?_
                have ne378 : tle ≠ b327 := Nat.ne_of_lt (Nat.lt_of_lt_of_le (Nat.lt_of_lt_of_le le_0.lt O0.1) (Nat.le_trans (Nat.le_trans (Nat.le_trans (Nat.le_refl _) K323.1) (Nat.le_of_eq W325.size.symm)) (Nat.le_of_eq g327.symm)))
                have ne379 : tda ≠ b327 := Nat.ne_of_lt (Nat.lt_of_lt_of_le (Nat.lt_of_lt_of_le da_0.lt O0.1) (Nat.le_trans (Nat.le_trans (Nat.le_trans (Nat.le_refl _) K323.1) (Nat.le_of_eq W325.size.symm)) (Nat.le_of_eq g327.symm)))
                refine Go.callS (y := mN0) (pc' := 310) C334 X376 (tw hw 51 rfl) (tw hw 52 rfl) (by decide) (rm_nmLle l Z a0 hw va vk le0 tle lev lek da0 tda dav dak b327 cP v_330 kv_330 ((daL.set ((p3 &&& (2147483647 : Int32)) % (17 : Int32)).toNatClampNeg (p4 &&& (65535 : Int32)))) h334 O348 SV Ev Av Tle le_0 le_1 le_2 le_3 Tda da_0 da_1 da_2 da_3 c344 c345 c346 c347 SC hP ne378 ne379 (by rw [hlen]; decide) (own_ifn hc273_349)) (tw hw 53 rfl) (tw hw 49 rfl) e376 (argsL := [(.ref b327)]) (rest := []) (W := 0) rfl rfl pd_13 rfl (Nat.le_of_eq rfl) rfl (by decide) (by decide) (by decide) (by decide) at_307 rfl ?_
                intro T377 v377 L377 X377 q377
                obtain ⟨rfl, N377q, K377⟩ := q377
                have N377 := Fr.app N343 N377q
                have Hr380 := CHr.trans Hr337 (CHr.keep K377 all0 Hr337.1)
                refine Go.aload (pc' := 312) C334 X377 at_310 rfl rfl rfl ?_
                refine Go.acmpNo (pc' := 315) C334 X377 at_312 rfl rfl (XT.aa_ne_f rfl) rfl ?_
                refine Go.iconst (z := (1 : Int32)) (pc' := 316) C334 X377 at_315 rfl rfl ?_
                refine Go.goto (pc' := 320) C334 X377 at_316 (by decide) (by decide) ?_
                have K381 : Keep h0 T377.heap [] := (((((((Keep.refl h0 []).trans K323 all0).wr W325 (Or.inr z_a_323)).ext E327).trans K330 (allS (Or.inr z_b327) all0)).ext E334).trans K377 all0)
                have Si382 : Sin s sC334 T377.heap := Sin.mono Si334 (Nat.le_trans (Nat.le_refl _) K377.1)
                exact Go.retNH C334 X377 Si382 (EWc hw) Hr380 rfl at_320 (by simp) ⟨rfl, N377, K381⟩ (by decide) (by decide)
            · have c384 : AL Z h327 a_323 ka_323 .char (ch16 (daL.set ((p3 &&& (2147483647 : Int32)) % (17 : Int32)).toNatClampNeg (p4 &&& (65535 : Int32)))) := (AL.ext E327 A325)
              have O385 : Ext Z.heap h327 := (Ext.trans O328 E327)
              refine Go.callI (y := mN8) (a := b327) (pc' := 115) C X327 rfl (tw hw 9 rfl) (tw hw 10 rfl) (by decide) (rm_sU1 l Z a0 hw b327 a_323 ka_323 ((daL.set ((p3 &&& (2147483647 : Int32)) % (17 : Int32)).toNatClampNeg (p4 &&& (65535 : Int32)))) j xj cP h327 O385 A327 F327_value F327_coder c384 SC SH SLo SAd (by rw [hlen]; decide) hj hx hx2 hb hP n_b327) (tw hw 11 rfl) (tw hw 3 rfl) e327 (argsL := [(.ref a_323)]) (rest := [(.ref b327)]) (W := 1) rfl rfl pd_12 rfl (Nat.le_of_eq rfl) rfl (by decide) (by decide) (by decide) (by decide) rfl at_112 rfl ?_
              intro T383 v383 L383 X383 q383
              obtain ⟨v_383, kv_383, ys_383, rfl, N383q, K383, B383_0, P383_0, P383_1, P383_2⟩ := q383
              have N383 := Fr.app N325 N383q
              have Hr386 := CHr.trans Hr329 (CHr.keep K383 (allS s_b327 all0) Hr329.1)
              have n_v_383 : Z.heap.size ≤ v_383 := Nat.le_trans O385.1 B383_0
              have z_v_383 : h0.size ≤ v_383 := Nat.le_trans (Nat.le_trans (Nat.le_trans (Nat.le_trans (Nat.le_refl _) K323.1) (Nat.le_of_eq W325.size.symm)) E327.1) B383_0
              have s_v_383 : Safe Z consts_1 s.vm T383.heap v_383 := Safe.keep K383 (allS s_b327 all0) Hr329.1 (Safe.new B383_0)
              refine Go.astore (Ls' := #[.val (.int p1), .val (.int p2), .val (.int p3), .val (.int p4), .val (.int p5), .val (.int p6), .val (.int d6), .val (.int (p4 &&& (65535 : Int32))), .val (.int (p1 &&& (7 : Int32))), .val (.ref b327), .val (.ref a_323), .val (.int ((p3 &&& (2147483647 : Int32)) % (17 : Int32)))]) (pc' := 117) C X383 at_115 rfl rfl rfl ?_
              refine Go.goto (pc' := 266) C X383 at_117 (by decide) (by decide) ?_
              have O388 : Ext Z.heap T383.heap := (Ext.keep O385 K383 (allS n_b327 all0))
              have Si389 : Sin s s T383.heap := Sin.mono Si0 (Nat.le_trans (Nat.le_trans (Nat.le_trans (Nat.le_trans (Nat.le_refl _) K323.1) (Nat.le_of_eq W325.size.symm)) E327.1) K383.1)
              refine Go.ldcH (pc' := 268) (n := 60) (vs := [(.int (108 : Int32)), (.int (97 : Int32)), (.int (119 : Int32)), (.int (45 : Int32)), (.int (101 : Int32)), (.int (110 : Int32)), (.int (102 : Int32)), (.int (111 : Int32)), (.int (114 : Int32)), (.int (99 : Int32)), (.int (101 : Int32)), (.int (109 : Int32)), (.int (101 : Int32)), (.int (110 : Int32)), (.int (116 : Int32))]) (z := (15 : Int32)) C X383 Si389 (EWc hw) Hr386.1 (tw hw 35 rfl) (wS hw) rfl (by decide) (by decide) (by decide) (by decide) (by decide) (by decide) (by decide) (by decide) at_266 rfl ?_
              intro T387 h387 b387 sC387 v387 k387 C387 X387 e387 Si387 E387 hR387 A387 F387c F387v B387 hne387
              have Hr390 := CHr.trans Hr386 hR387
              have ne391 : a_323 ≠ b327 := Nat.ne_of_lt (Nat.lt_of_lt_of_le P323_0.lt (Nat.le_trans (Nat.le_trans (Nat.le_refl _) (Nat.le_of_eq W325.size.symm)) (Nat.le_of_eq g327.symm)))
              have c392 : AL Z h387 a_323 ka_323 .char (ch16 (daL.set ((p3 &&& (2147483647 : Int32)) % (17 : Int32)).toNatClampNeg (p4 &&& (65535 : Int32)))) := (AL.ext E387 (AL.keep c384 K383 (ninS ne391 nin0)))
              have hx387_a_323 := hne387 a_323 (Safe.al C387.2.1.alike c392 (by decide))
              have sa393 : Safe Z consts_1 sC387.vm h387 b327 := (CHr.safe hR387 (Nat.lt_of_lt_of_le A327.lt (Nat.le_trans (Nat.le_refl _) K383.1)) (Safe.keep K383 (allS s_b327 all0) Hr329.1 s_b327))
              have hx387_b327 := hne387 b327 sa393
              have sa394 : Safe Z consts_1 sC387.vm h387 v_383 := (CHr.safe hR387 (Nat.lt_of_lt_of_le P383_2.lt (Nat.le_refl _)) s_v_383)
              have hx387_v_383 := hne387 v_383 sa394
              have tx395 : AL Z h387 v387 k387 .byte (by8 leL) := leV ▸ B387
              refine Go.aload (pc' := 270) C387 X387 at_268 rfl rfl rfl ?_
              have c397 : Exa Z h387 b327 "java/lang/String" := (Exa.ext E387 (Exa.keep A327 K383))
              have c398 : Fld Z h387 b327 "java/lang/String" "coder" "B" (.int (1 : Int32)) := (Fld.ext E387 P383_1)
              have O399 : Ext Z.heap h387 := (Ext.trans O388 E387)
              refine Go.callV (y := mN10) (z := mN10) (a := b387) (pc' := 273) C387 X387 (tw hw 38 rfl) (tw hw 39 rfl) (notFace_at C387.2.1 (tw hw 41 rfl)) (tw hw 41 rfl) (tw hw 40 rfl) A387 (by decide) (rm_eqC l Z a0 hw b387 b327 cP h387 O399 SC A387 F387c c397 c398 (Ne.symm hx387_b327.1) hP) (tw hw 42 rfl) (tw hw 3 rfl) e387 (argsL := [(.ref b327)]) (rest := []) (W := 0) rfl rfl pd_10 rfl (Nat.le_of_eq rfl) rfl (by decide) (by decide) (by decide) (by decide) at_270 rfl ?_
              intro T396 v396 L396 X396 q396
              obtain ⟨rfl, rfl, e396⟩ := q396
              have N396 := Fr.app N383 (Fr.nil _)
              refine Go.ifYes (pc' := 284) C387 X396 at_273 ((if0 _ _).trans (teq (x := (0 : Int32)) (y := (0 : Int32)) (by decide)).1) (by decide) (by decide) ?_
              refine Go.ldcH (pc' := 286) (n := 68) (vs := [(.int (100 : Int32)), (.int (105 : Int32)), (.int (115 : Int32)), (.int (116 : Int32)), (.int (114 : Int32)), (.int (105 : Int32)), (.int (99 : Int32)), (.int (116 : Int32)), (.int (45 : Int32)), (.int (97 : Int32)), (.int (116 : Int32)), (.int (116 : Int32)), (.int (111 : Int32)), (.int (114 : Int32)), (.int (110 : Int32)), (.int (101 : Int32)), (.int (121 : Int32))]) (z := (17 : Int32)) C387 X396 Si387 (EWc hw) Hr390.1 (tw hw 76 rfl) (wS hw) e396 (by decide) (by decide) (by decide) (by decide) (by decide) (by decide) (by decide) (by decide) at_284 rfl ?_
              intro T401 h401 b401 sC401 v401 k401 C401 X401 e401 Si401 E401 hR401 A401 F401c F401v B401 hne401
              have Hr402 := CHr.trans Hr390 hR401
              have c403 : AL Z h401 a_323 ka_323 .char (ch16 (daL.set ((p3 &&& (2147483647 : Int32)) % (17 : Int32)).toNatClampNeg (p4 &&& (65535 : Int32)))) := (AL.ext E401 c392)
              have hx401_a_323 := hne401 a_323 (Safe.al C401.2.1.alike c403 (by decide))
              have sa404 : Safe Z consts_1 sC401.vm h401 b327 := (CHr.safe hR401 (Nat.lt_of_lt_of_le A327.lt (Nat.le_trans (Nat.le_trans (Nat.le_refl _) K383.1) E387.1)) sa393)
              have hx401_b327 := hne401 b327 sa404
              have sa405 : Safe Z consts_1 sC401.vm h401 v_383 := (CHr.safe hR401 (Nat.lt_of_lt_of_le P383_2.lt (Nat.le_trans (Nat.le_refl _) E387.1)) sa394)
              have hx401_v_383 := hne401 v_383 sa405
              have tx406 : AL Z h401 v401 k401 .byte (by8 daL) := daV ▸ B401
              refine Go.aload (pc' := 288) C401 X401 at_286 rfl rfl rfl ?_
              have c408 : Exa Z h401 b327 "java/lang/String" := (Exa.ext E401 c397)
              have c409 : Fld Z h401 b327 "java/lang/String" "coder" "B" (.int (1 : Int32)) := (Fld.ext E401 c398)
              have O410 : Ext Z.heap h401 := (Ext.trans O399 E401)
              refine Go.callV (y := mN10) (z := mN10) (a := b401) (pc' := 291) C401 X401 (tw hw 38 rfl) (tw hw 39 rfl) (notFace_at C401.2.1 (tw hw 41 rfl)) (tw hw 41 rfl) (tw hw 40 rfl) A401 (by decide) (rm_eqC l Z a0 hw b401 b327 cP h401 O410 SC A401 F401c c408 c409 (Ne.symm hx401_b327.1) hP) (tw hw 42 rfl) (tw hw 3 rfl) e401 (argsL := [(.ref b327)]) (rest := []) (W := 0) rfl rfl pd_10 rfl (Nat.le_of_eq rfl) rfl (by decide) (by decide) (by decide) (by decide) at_288 rfl ?_
              intro T407 v407 L407 X407 q407
              obtain ⟨rfl, rfl, e407⟩ := q407
              have N407 := Fr.app N396 (Fr.nil _)
              refine Go.ifYes (pc' := 302) C401 X407 at_291 ((if0 _ _).trans (teq (x := (0 : Int32)) (y := (0 : Int32)) (by decide)).1) (by decide) (by decide) ?_
              refine Go.aconstNull (pc' := 303) C401 X407 at_302 rfl ?_
              refine Go.astore (Ls' := #[.val (.int p1), .val (.int p2), .val (.int p3), .val (.int p4), .val (.int p5), .val (.int p6), .val (.int d6), .val (.int (p4 &&& (65535 : Int32))), .val (.int (p1 &&& (7 : Int32))), .val (.ref b327), .val .null, .val (.int ((p3 &&& (2147483647 : Int32)) % (17 : Int32)))]) (pc' := 305) C401 X407 at_303 rfl rfl rfl ?_
              refine Go.aload (pc' := 307) C401 X407 at_305 rfl rfl rfl ?_
              have ne413 : tle ≠ b327 := Nat.ne_of_lt (Nat.lt_of_lt_of_le (Nat.lt_of_lt_of_le le_0.lt O0.1) (Nat.le_trans (Nat.le_trans (Nat.le_trans (Nat.le_refl _) K323.1) (Nat.le_of_eq W325.size.symm)) (Nat.le_of_eq g327.symm)))
              have ne414 : tda ≠ b327 := Nat.ne_of_lt (Nat.lt_of_lt_of_le (Nat.lt_of_lt_of_le da_0.lt O0.1) (Nat.le_trans (Nat.le_trans (Nat.le_trans (Nat.le_refl _) K323.1) (Nat.le_of_eq W325.size.symm)) (Nat.le_of_eq g327.symm)))
              refine Go.callS (y := mN0) (pc' := 310) C401 X407 (tw hw 51 rfl) (tw hw 52 rfl) (by decide) (rm_nmUno l Z a0 hw va vk le0 tle lev lek da0 tda dav dak b327 cP h401 O410 SV Ev Av Tle le_0 le_1 le_2 le_3 Tda da_0 da_1 da_2 da_3 c408 c409 SC hP ne413 ne414) (tw hw 53 rfl) (tw hw 49 rfl) e407 (argsL := [(.ref b327)]) (rest := []) (W := 0) rfl rfl pd_13 rfl (Nat.le_of_eq rfl) rfl (by decide) (by decide) (by decide) (by decide) at_307 rfl ?_
              intro T412 v412 L412 X412 q412
              obtain ⟨rfl, N412q, K412⟩ := q412
              have N412 := Fr.app N407 N412q
              have Hr415 := CHr.trans Hr402 (CHr.keep K412 all0 Hr402.1)
              refine Go.aload (pc' := 312) C401 X412 at_310 rfl rfl rfl ?_
              refine Go.acmpNo (pc' := 315) C401 X412 at_312 rfl rfl (XT.aa_ne_f rfl) rfl ?_
              refine Go.iconst (z := (1 : Int32)) (pc' := 316) C401 X412 at_315 rfl rfl ?_
              refine Go.goto (pc' := 320) C401 X412 at_316 (by decide) (by decide) ?_
              have K416 : Keep h0 T412.heap [] := ((((((((Keep.refl h0 []).trans K323 all0).wr W325 (Or.inr z_a_323)).ext E327).trans K383 (allS (Or.inr z_b327) all0)).ext E387).ext E401).trans K412 all0)
              have Si417 : Sin s sC401 T412.heap := Sin.mono Si401 (Nat.le_trans (Nat.le_refl _) K412.1)
              exact Go.retNH C401 X412 Si417 (EWc hw) Hr415 rfl at_320 (by simp) ⟨rfl, N412, K416⟩ (by decide) (by decide)
        · refine Go.icmpYes (pc' := 120) C X101 at_70 (feq (x := (p1 &&& (7 : Int32))) (y := (2 : Int32)) hc70_226).2 (by decide) (by decide) ?_
          refine Go.iload (pc' := 122) C X101 at_120 rfl rfl ?_
          refine Go.iconst (z := (3 : Int32)) (pc' := 123) C X101 at_122 rfl rfl ?_
          by_cases hc123_418 : (p1 &&& (7 : Int32)) = (3 : Int32)
          · refine Go.icmpNo (pc' := 126) C X101 at_123 (teq (x := (p1 &&& (7 : Int32))) (y := (3 : Int32)) hc123_418).2 rfl ?_
            refine Go.newO (pc' := 129) C X101 (tw hw 1 rfl) (tw hw 2 rfl) (tw hw 3 rfl) e101 (by decide) (by decide) at_126 rfl ?_
            intro T419 h419 b419 X419 e419 g419 E419 A419 D419
            have Hr420 := CHr.trans Hr0 (CHr.ext E419 Hr0.1)
            have n_b419 : Z.heap.size ≤ b419 := Nat.le_trans O0.1 (Nat.le_of_eq g419.symm)
            have z_b419 : h0.size ≤ b419 := Nat.le_trans (Nat.le_refl _) (Nat.le_of_eq g419.symm)
            have s_b419 : Safe Z consts_1 s.vm h419 b419 := Safe.ext E419 Hr0.1 (Safe.new (Nat.le_of_eq g419.symm))
            have F419_coder : Fld Z h419 b419 "java/lang/String" "coder" "B" (.int (0 : Int32)) := D419 (Or.inr (tw hw 32 rfl)) (ty := .byte) (by decide)
            have F419_value : Fld Z h419 b419 "java/lang/String" "value" "[B" .null := D419 (Or.inr (tw hw 34 rfl)) (ty := (.array .byte)) (by decide)
            refine Go.dup (pc' := 130) C X419 at_129 rfl rfl ?_
            refine Go.iload (pc' := 132) C X419 at_130 rfl rfl ?_
            by_cases hc132_421 : d6 = (0 : Int32)
            · refine Go.ifYes (pc' := 143) C X419 at_132 ((if0 _ _).trans (teq (x := d6) (y := (0 : Int32)) hc132_421).1) (by decide) (by decide) ?_
              refine Go.iload (pc' := 145) C X419 at_143 rfl rfl ?_
              have O423 : Ext Z.heap h419 := (Ext.trans O0 E419)
              refine Go.callS (y := mN6) (pc' := 148) C X419 (tw hw 104 rfl) (tw hw 105 rfl) (by decide) (rm_ar_leLonger l Z a0 hw p4 h419 O423 ) (tw hw 106 rfl) (tw hw 6 rfl) e419 (argsL := [(.int (p4 &&& (65535 : Int32)))]) (rest := [(.ref b419), (.ref b419)]) (W := 2) rfl rfl pd_14 rfl (Nat.le_of_eq rfl) rfl (by decide) (by decide) (by decide) (by decide) at_145 rfl ?_
              intro T422 v422 L422 X422 q422
              obtain ⟨a_422, ka_422, rfl, N422q, K422, B422_0, P422_0⟩ := q422
              have N422 := Fr.app N101 N422q
              have Hr424 := CHr.trans Hr420 (CHr.keep K422 all0 Hr420.1)
              have n_a_422 : Z.heap.size ≤ a_422 := Nat.le_trans O423.1 B422_0
              have z_a_422 : h0.size ≤ a_422 := Nat.le_trans (Nat.le_trans (Nat.le_refl _) E419.1) B422_0
              have s_a_422 : Safe Z consts_1 s.vm T422.heap a_422 := Safe.keep K422 all0 Hr420.1 (Safe.new B422_0)
              have hlen : (leL ++ [(p4 &&& (65535 : Int32))]).length = 16 := by rfl
              rcases split16 (leL ++ [(p4 &&& (65535 : Int32))]) (app16 (by decide) (m16 p4)) with hAll | ⟨j, xj, hj, hx, hx2, hb⟩
              · have c426 : Exa Z T422.heap b419 "java/lang/String" := (Exa.keep A419 K422)
                have c427 : Fld Z T422.heap b419 "java/lang/String" "value" "[B" .null := (Fld.keep F419_value K422 nin0)
                have c428 : Fld Z T422.heap b419 "java/lang/String" "coder" "B" (.int (0 : Int32)) := (Fld.keep F419_coder K422 nin0)
                have O429 : Ext Z.heap T422.heap := (Ext.keep O423 K422 all0)
                refine Go.callI (y := mN8) (a := b419) (pc' := 151) C X422 rfl (tw hw 9 rfl) (tw hw 10 rfl) (by decide) (rm_sI1 l Z a0 hw b419 a_422 ka_422 ((leL ++ [(p4 &&& (65535 : Int32))])) cP T422.heap O429 c426 c427 c428 P422_0 SC hAll (by rw [hlen]; decide) (by rw [hlen]; decide) (by rw [hlen]; decide) hP n_b419) (tw hw 11 rfl) (tw hw 3 rfl) rfl (argsL := [(.ref a_422)]) (rest := [(.ref b419)]) (W := 1) rfl rfl pd_12 rfl (Nat.le_of_eq rfl) rfl (by decide) (by decide) (by decide) (by decide) rfl at_148 rfl ?_
                intro T425 v425 L425 X425 q425
                obtain ⟨v_425, kv_425, rfl, N425q, K425, B425_0, P425_0, P425_1, P425_2⟩ := q425
                have N425 := Fr.app N422 N425q
                have sa431 : Safe Z consts_1 s.vm T422.heap b419 := (Safe.keep K422 all0 Hr420.1 s_b419)
                have Hr430 := CHr.trans Hr424 (CHr.keep K425 (allS sa431 all0) Hr424.1)
                have n_v_425 : Z.heap.size ≤ v_425 := Nat.le_trans O429.1 B425_0
                have z_v_425 : h0.size ≤ v_425 := Nat.le_trans (Nat.le_trans (Nat.le_trans (Nat.le_refl _) E419.1) K422.1) B425_0
                have s_v_425 : Safe Z consts_1 s.vm T425.heap v_425 := Safe.keep K425 (allS sa431 all0) Hr424.1 (Safe.new B425_0)
                refine Go.astore (Ls' := #[.val (.int p1), .val (.int p2), .val (.int p3), .val (.int p4), .val (.int p5), .val (.int p6), .val (.int d6), .val (.int (p4 &&& (65535 : Int32))), .val (.int (p1 &&& (7 : Int32))), .val (.ref b419), .unset, .unset]) (pc' := 153) C X425 at_151 rfl rfl rfl ?_
                refine Go.goto (pc' := 266) C X425 at_153 (by decide) (by decide) ?_
                have O433 : Ext Z.heap T425.heap := (Ext.keep O429 K425 (allS n_b419 all0))
                have Si434 : Sin s s T425.heap := Sin.mono Si0 (Nat.le_trans (Nat.le_trans (Nat.le_trans (Nat.le_refl _) E419.1) K422.1) K425.1)
                refine Go.ldcH (pc' := 268) (n := 60) (vs := [(.int (108 : Int32)), (.int (97 : Int32)), (.int (119 : Int32)), (.int (45 : Int32)), (.int (101 : Int32)), (.int (110 : Int32)), (.int (102 : Int32)), (.int (111 : Int32)), (.int (114 : Int32)), (.int (99 : Int32)), (.int (101 : Int32)), (.int (109 : Int32)), (.int (101 : Int32)), (.int (110 : Int32)), (.int (116 : Int32))]) (z := (15 : Int32)) C X425 Si434 (EWc hw) Hr430.1 (tw hw 35 rfl) (wS hw) rfl (by decide) (by decide) (by decide) (by decide) (by decide) (by decide) (by decide) (by decide) at_266 rfl ?_
                intro T432 h432 b432 sC432 v432 k432 C432 X432 e432 Si432 E432 hR432 A432 F432c F432v B432 hne432
                have Hr435 := CHr.trans Hr430 hR432
                have sa436 : Safe Z consts_1 sC432.vm h432 b419 := (CHr.safe hR432 (Nat.lt_of_lt_of_le A419.lt (Nat.le_trans (Nat.le_trans (Nat.le_refl _) K422.1) K425.1)) (Safe.keep K425 (allS sa431 all0) Hr424.1 sa431))
                have hx432_b419 := hne432 b419 sa436
                have ne437 : a_422 ≠ b419 := (Nat.ne_of_gt (Nat.lt_of_lt_of_le A419.lt (Nat.le_trans (Nat.le_refl _) B422_0)))
                have c438 : AL Z h432 a_422 ka_422 .char (ch16 (leL ++ [(p4 &&& (65535 : Int32))])) := (AL.ext E432 (AL.keep P422_0 K425 (ninS ne437 nin0)))
                have hx432_a_422 := hne432 a_422 (Safe.al C432.2.1.alike c438 (by decide))
                have sa439 : Safe Z consts_1 sC432.vm h432 v_425 := (CHr.safe hR432 (Nat.lt_of_lt_of_le P425_2.lt (Nat.le_refl _)) s_v_425)
                have hx432_v_425 := hne432 v_425 sa439
                have tx440 : AL Z h432 v432 k432 .byte (by8 leL) := leV ▸ B432
                refine Go.aload (pc' := 270) C432 X432 at_268 rfl rfl rfl ?_
                have c442 : Exa Z h432 b419 "java/lang/String" := (Exa.ext E432 (Exa.keep c426 K425))
                have c443 : Fld Z h432 b419 "java/lang/String" "value" "[B" (.ref v_425) := (Fld.ext E432 P425_0)
                have c444 : Fld Z h432 b419 "java/lang/String" "coder" "B" (.int (0 : Int32)) := (Fld.ext E432 P425_1)
                have c445 : AL Z h432 v_425 kv_425 .byte (by8 (leL ++ [(p4 &&& (65535 : Int32))])) := (AL.ext E432 P425_2)
                have O446 : Ext Z.heap h432 := (Ext.trans O433 E432)
                refine Go.callV (y := mN10) (z := mN10) (a := b432) (pc' := 273) C432 X432 (tw hw 38 rfl) (tw hw 39 rfl) (notFace_at C432.2.1 (tw hw 41 rfl)) (tw hw 41 rfl) (tw hw 40 rfl) A432 (by decide) (rm_eqS l Z a0 hw b432 b419 v432 v_425 k432 kv_425 leL ((leL ++ [(p4 &&& (65535 : Int32))])) cP h432 O446 SC A432 F432v F432c tx440 c442 c443 c444 c445 (Ne.symm hx432_b419.1) hP (by decide) (by rw [hlen]; decide)) (tw hw 42 rfl) (tw hw 3 rfl) e432 (argsL := [(.ref b419)]) (rest := []) (W := 0) rfl rfl pd_10 rfl (Nat.le_of_eq rfl) rfl (by decide) (by decide) (by decide) (by decide) at_270 rfl ?_
                intro T441 v441 L441 X441 q441
                obtain ⟨rfl, rfl, e441⟩ := q441
                have N441 := Fr.app N425 (Fr.nil _)
                by_cases hc273_447 : (if by8 leL = by8 (leL ++ [(p4 &&& (65535 : Int32))]) then (1 : Int32) else 0) = (0 : Int32)
                · refine Go.ifYes (pc' := 284) C432 X441 at_273 ((if0 _ _).trans (teq (x := (if by8 leL = by8 (leL ++ [(p4 &&& (65535 : Int32))]) then (1 : Int32) else 0)) (y := (0 : Int32)) hc273_447).1) (by decide) (by decide) ?_
                  refine Go.ldcH (pc' := 286) (n := 68) (vs := [(.int (100 : Int32)), (.int (105 : Int32)), (.int (115 : Int32)), (.int (116 : Int32)), (.int (114 : Int32)), (.int (105 : Int32)), (.int (99 : Int32)), (.int (116 : Int32)), (.int (45 : Int32)), (.int (97 : Int32)), (.int (116 : Int32)), (.int (116 : Int32)), (.int (111 : Int32)), (.int (114 : Int32)), (.int (110 : Int32)), (.int (101 : Int32)), (.int (121 : Int32))]) (z := (17 : Int32)) C432 X441 Si432 (EWc hw) Hr435.1 (tw hw 76 rfl) (wS hw) e441 (by decide) (by decide) (by decide) (by decide) (by decide) (by decide) (by decide) (by decide) at_284 rfl ?_
                  intro T448 h448 b448 sC448 v448 k448 C448 X448 e448 Si448 E448 hR448 A448 F448c F448v B448 hne448
                  have Hr449 := CHr.trans Hr435 hR448
                  have sa450 : Safe Z consts_1 sC448.vm h448 b419 := (CHr.safe hR448 (Nat.lt_of_lt_of_le A419.lt (Nat.le_trans (Nat.le_trans (Nat.le_trans (Nat.le_refl _) K422.1) K425.1) E432.1)) sa436)
                  have hx448_b419 := hne448 b419 sa450
                  have c451 : AL Z h448 a_422 ka_422 .char (ch16 (leL ++ [(p4 &&& (65535 : Int32))])) := (AL.ext E448 c438)
                  have hx448_a_422 := hne448 a_422 (Safe.al C448.2.1.alike c451 (by decide))
                  have sa452 : Safe Z consts_1 sC448.vm h448 v_425 := (CHr.safe hR448 (Nat.lt_of_lt_of_le P425_2.lt (Nat.le_trans (Nat.le_refl _) E432.1)) sa439)
                  have hx448_v_425 := hne448 v_425 sa452
                  have tx453 : AL Z h448 v448 k448 .byte (by8 daL) := daV ▸ B448
                  refine Go.aload (pc' := 288) C448 X448 at_286 rfl rfl rfl ?_
                  have c455 : Exa Z h448 b419 "java/lang/String" := (Exa.ext E448 c442)
                  have c456 : Fld Z h448 b419 "java/lang/String" "value" "[B" (.ref v_425) := (Fld.ext E448 c443)
                  have c457 : Fld Z h448 b419 "java/lang/String" "coder" "B" (.int (0 : Int32)) := (Fld.ext E448 c444)
                  have c458 : AL Z h448 v_425 kv_425 .byte (by8 (leL ++ [(p4 &&& (65535 : Int32))])) := (AL.ext E448 c445)
                  have O459 : Ext Z.heap h448 := (Ext.trans O446 E448)
                  refine Go.callV (y := mN10) (z := mN10) (a := b448) (pc' := 291) C448 X448 (tw hw 38 rfl) (tw hw 39 rfl) (notFace_at C448.2.1 (tw hw 41 rfl)) (tw hw 41 rfl) (tw hw 40 rfl) A448 (by decide) (rm_eqS l Z a0 hw b448 b419 v448 v_425 k448 kv_425 daL ((leL ++ [(p4 &&& (65535 : Int32))])) cP h448 O459 SC A448 F448v F448c tx453 c455 c456 c457 c458 (Ne.symm hx448_b419.1) hP (by decide) (by rw [hlen]; decide)) (tw hw 42 rfl) (tw hw 3 rfl) e448 (argsL := [(.ref b419)]) (rest := []) (W := 0) rfl rfl pd_10 rfl (Nat.le_of_eq rfl) rfl (by decide) (by decide) (by decide) (by decide) at_288 rfl ?_
                  intro T454 v454 L454 X454 q454
                  obtain ⟨rfl, rfl, e454⟩ := q454
                  have N454 := Fr.app N441 (Fr.nil _)
                  by_cases hc291_460 : (if by8 daL = by8 (leL ++ [(p4 &&& (65535 : Int32))]) then (1 : Int32) else 0) = (0 : Int32)
                  · refine Go.ifYes (pc' := 302) C448 X454 at_291 ((if0 _ _).trans (teq (x := (if by8 daL = by8 (leL ++ [(p4 &&& (65535 : Int32))]) then (1 : Int32) else 0)) (y := (0 : Int32)) hc291_460).1) (by decide) (by decide) ?_
                    refine Go.aconstNull (pc' := 303) C448 X454 at_302 rfl ?_
                    refine Go.astore (Ls' := #[.val (.int p1), .val (.int p2), .val (.int p3), .val (.int p4), .val (.int p5), .val (.int p6), .val (.int d6), .val (.int (p4 &&& (65535 : Int32))), .val (.int (p1 &&& (7 : Int32))), .val (.ref b419), .val .null, .unset]) (pc' := 305) C448 X454 at_303 rfl rfl rfl ?_
                    refine Go.aload (pc' := 307) C448 X454 at_305 rfl rfl rfl ?_
                    have ne462 : tle ≠ b419 := Nat.ne_of_lt (Nat.lt_of_lt_of_le (Nat.lt_of_lt_of_le le_0.lt O0.1) (Nat.le_trans (Nat.le_refl _) (Nat.le_of_eq g419.symm)))
                    have ne463 : tda ≠ b419 := Nat.ne_of_lt (Nat.lt_of_lt_of_le (Nat.lt_of_lt_of_le da_0.lt O0.1) (Nat.le_trans (Nat.le_refl _) (Nat.le_of_eq g419.symm)))
                    refine Go.callS (y := mN0) (pc' := 310) C448 X454 (tw hw 51 rfl) (tw hw 52 rfl) (by decide) (rm_nmLno l Z a0 hw va vk le0 tle lev lek da0 tda dav dak b419 cP v_425 kv_425 ((leL ++ [(p4 &&& (65535 : Int32))])) h448 O459 SV Ev Av Tle le_0 le_1 le_2 le_3 Tda da_0 da_1 da_2 da_3 c455 c456 c457 c458 SC hP ne462 ne463 (by rw [hlen]; decide) (own_ifz hc273_447) (own_ifz hc291_460)) (tw hw 53 rfl) (tw hw 49 rfl) e454 (argsL := [(.ref b419)]) (rest := []) (W := 0) rfl rfl pd_13 rfl (Nat.le_of_eq rfl) rfl (by decide) (by decide) (by decide) (by decide) at_307 rfl ?_
                    intro T461 v461 L461 X461 q461
                    obtain ⟨rfl, N461q, K461⟩ := q461
                    have N461 := Fr.app N454 N461q
                    have Hr464 := CHr.trans Hr449 (CHr.keep K461 all0 Hr449.1)
                    refine Go.aload (pc' := 312) C448 X461 at_310 rfl rfl rfl ?_
                    refine Go.acmpNo (pc' := 315) C448 X461 at_312 rfl rfl (XT.aa_ne_f rfl) rfl ?_
                    refine Go.iconst (z := (1 : Int32)) (pc' := 316) C448 X461 at_315 rfl rfl ?_
                    refine Go.goto (pc' := 320) C448 X461 at_316 (by decide) (by decide) ?_
                    have K465 : Keep h0 T461.heap [] := (((((((Keep.refl h0 []).ext E419).trans K422 all0).trans K425 (allS (Or.inr z_b419) all0)).ext E432).ext E448).trans K461 all0)
                    have Si466 : Sin s sC448 T461.heap := Sin.mono Si448 (Nat.le_trans (Nat.le_refl _) K461.1)
                    exact Go.retNH C448 X461 Si466 (EWc hw) Hr464 rfl at_320 (by simp) ⟨rfl, N461, K465⟩ (by decide) (by decide)
                  · refine Go.ifNo (pc' := 294) C448 X454 at_291 ((if0 _ _).trans (feq (x := (if by8 daL = by8 (leL ++ [(p4 &&& (65535 : Int32))]) then (1 : Int32) else 0)) (y := (0 : Int32)) hc291_460).1) rfl ?_
                    refine Go.getS (pc' := 297) (host := "") C448 X454 (Or.inl (tw hw 110 rfl)) Via.refl e454 (Sda.ext O459) at_294 rfl ?_
                    intro T467 X467 e467
                    refine Go.astore (Ls' := #[.val (.int p1), .val (.int p2), .val (.int p3), .val (.int p4), .val (.int p5), .val (.int p6), .val (.int d6), .val (.int (p4 &&& (65535 : Int32))), .val (.int (p1 &&& (7 : Int32))), .val (.ref b419), .val (.ref da0), .unset]) (pc' := 299) C448 X467 at_297 rfl rfl rfl ?_
                    refine Go.goto (pc' := 305) C448 X467 at_299 (by decide) (by decide) ?_
                    refine Go.aload (pc' := 307) C448 X467 at_305 rfl rfl rfl ?_
                    have ne469 : tle ≠ b419 := Nat.ne_of_lt (Nat.lt_of_lt_of_le (Nat.lt_of_lt_of_le le_0.lt O0.1) (Nat.le_trans (Nat.le_refl _) (Nat.le_of_eq g419.symm)))
                    have ne470 : tda ≠ b419 := Nat.ne_of_lt (Nat.lt_of_lt_of_le (Nat.lt_of_lt_of_le da_0.lt O0.1) (Nat.le_trans (Nat.le_refl _) (Nat.le_of_eq g419.symm)))
                    refine Go.callS (y := mN0) (pc' := 310) C448 X467 (tw hw 51 rfl) (tw hw 52 rfl) (by decide) (rm_nmLda l Z a0 hw va vk le0 tle lev lek da0 tda dav dak b419 cP v_425 kv_425 ((leL ++ [(p4 &&& (65535 : Int32))])) h448 O459 SV Ev Av Tle le_0 le_1 le_2 le_3 Tda da_0 da_1 da_2 da_3 c455 c456 c457 c458 SC hP ne469 ne470 (by rw [hlen]; decide) (own_ifz hc273_447) (own_ifn hc291_460)) (tw hw 53 rfl) (tw hw 49 rfl) e467 (argsL := [(.ref b419)]) (rest := []) (W := 0) rfl rfl pd_13 rfl (Nat.le_of_eq rfl) rfl (by decide) (by decide) (by decide) (by decide) at_307 rfl ?_
                    intro T468 v468 L468 X468 q468
                    obtain ⟨rfl, N468q, K468⟩ := q468
                    have N468 := Fr.app N454 N468q
                    have Hr471 := CHr.trans Hr449 (CHr.keep K468 all0 Hr449.1)
                    refine Go.aload (pc' := 312) C448 X468 at_310 rfl rfl rfl ?_
                    refine Go.acmpNo (pc' := 315) C448 X468 at_312 rfl rfl (XT.aa_ne_f rfl) rfl ?_
                    refine Go.iconst (z := (1 : Int32)) (pc' := 316) C448 X468 at_315 rfl rfl ?_
                    refine Go.goto (pc' := 320) C448 X468 at_316 (by decide) (by decide) ?_
                    have K472 : Keep h0 T468.heap [] := (((((((Keep.refl h0 []).ext E419).trans K422 all0).trans K425 (allS (Or.inr z_b419) all0)).ext E432).ext E448).trans K468 all0)
                    have Si473 : Sin s sC448 T468.heap := Sin.mono Si448 (Nat.le_trans (Nat.le_refl _) K468.1)
                    exact Go.retNH C448 X468 Si473 (EWc hw) Hr471 rfl at_320 (by simp) ⟨rfl, N468, K472⟩ (by decide) (by decide)
                · refine Go.ifNo (pc' := 276) C432 X441 at_273 ((if0 _ _).trans (feq (x := (if by8 leL = by8 (leL ++ [(p4 &&& (65535 : Int32))]) then (1 : Int32) else 0)) (y := (0 : Int32)) hc273_447).1) rfl ?_
                  refine Go.getS (pc' := 279) (host := "") C432 X441 (Or.inl (tw hw 48 rfl)) Via.refl e441 (Sle.ext O446) at_276 rfl ?_
                  intro T474 X474 e474
                  refine Go.astore (Ls' := #[.val (.int p1), .val (.int p2), .val (.int p3), .val (.int p4), .val (.int p5), .val (.int p6), .val (.int d6), .val (.int (p4 &&& (65535 : Int32))), .val (.int (p1 &&& (7 : Int32))), .val (.ref b419), .val (.ref le0), .unset]) (pc' := 281) C432 X474 at_279 rfl rfl rfl ?_
                  refine Go.goto (pc' := 305) C432 X474 at_281 (by decide) (by decide) ?_
                  refine Go.aload (pc' := 307) C432 X474 at_305 rfl rfl rfl ?_
                  have ne476 : tle ≠ b419 := Nat.ne_of_lt (Nat.lt_of_lt_of_le (Nat.lt_of_lt_of_le le_0.lt O0.1) (Nat.le_trans (Nat.le_refl _) (Nat.le_of_eq g419.symm)))
                  have ne477 : tda ≠ b419 := Nat.ne_of_lt (Nat.lt_of_lt_of_le (Nat.lt_of_lt_of_le da_0.lt O0.1) (Nat.le_trans (Nat.le_refl _) (Nat.le_of_eq g419.symm)))
                  refine Go.callS (y := mN0) (pc' := 310) C432 X474 (tw hw 51 rfl) (tw hw 52 rfl) (by decide) (rm_nmLle l Z a0 hw va vk le0 tle lev lek da0 tda dav dak b419 cP v_425 kv_425 ((leL ++ [(p4 &&& (65535 : Int32))])) h432 O446 SV Ev Av Tle le_0 le_1 le_2 le_3 Tda da_0 da_1 da_2 da_3 c442 c443 c444 c445 SC hP ne476 ne477 (by rw [hlen]; decide) (own_ifn hc273_447)) (tw hw 53 rfl) (tw hw 49 rfl) e474 (argsL := [(.ref b419)]) (rest := []) (W := 0) rfl rfl pd_13 rfl (Nat.le_of_eq rfl) rfl (by decide) (by decide) (by decide) (by decide) at_307 rfl ?_
                  intro T475 v475 L475 X475 q475
                  obtain ⟨rfl, N475q, K475⟩ := q475
                  have N475 := Fr.app N441 N475q
                  have Hr478 := CHr.trans Hr435 (CHr.keep K475 all0 Hr435.1)
                  refine Go.aload (pc' := 312) C432 X475 at_310 rfl rfl rfl ?_
                  refine Go.acmpNo (pc' := 315) C432 X475 at_312 rfl rfl (XT.aa_ne_f rfl) rfl ?_
                  refine Go.iconst (z := (1 : Int32)) (pc' := 316) C432 X475 at_315 rfl rfl ?_
                  refine Go.goto (pc' := 320) C432 X475 at_316 (by decide) (by decide) ?_
                  have K479 : Keep h0 T475.heap [] := ((((((Keep.refl h0 []).ext E419).trans K422 all0).trans K425 (allS (Or.inr z_b419) all0)).ext E432).trans K475 all0)
                  have Si480 : Sin s sC432 T475.heap := Sin.mono Si432 (Nat.le_trans (Nat.le_refl _) K475.1)
                  exact Go.retNH C432 X475 Si480 (EWc hw) Hr478 rfl at_320 (by simp) ⟨rfl, N475, K479⟩ (by decide) (by decide)
              · have c482 : Exa Z T422.heap b419 "java/lang/String" := (Exa.keep A419 K422)
                have c483 : Fld Z T422.heap b419 "java/lang/String" "value" "[B" .null := (Fld.keep F419_value K422 nin0)
                have c484 : Fld Z T422.heap b419 "java/lang/String" "coder" "B" (.int (0 : Int32)) := (Fld.keep F419_coder K422 nin0)
                have O485 : Ext Z.heap T422.heap := (Ext.keep O423 K422 all0)
                refine Go.callI (y := mN8) (a := b419) (pc' := 151) C X422 rfl (tw hw 9 rfl) (tw hw 10 rfl) (by decide) (rm_sU1 l Z a0 hw b419 a_422 ka_422 ((leL ++ [(p4 &&& (65535 : Int32))])) j xj cP T422.heap O485 c482 c483 c484 P422_0 SC SH SLo SAd (by rw [hlen]; decide) hj hx hx2 hb hP n_b419) (tw hw 11 rfl) (tw hw 3 rfl) rfl (argsL := [(.ref a_422)]) (rest := [(.ref b419)]) (W := 1) rfl rfl pd_12 rfl (Nat.le_of_eq rfl) rfl (by decide) (by decide) (by decide) (by decide) rfl at_148 rfl ?_
                intro T481 v481 L481 X481 q481
                obtain ⟨v_481, kv_481, ys_481, rfl, N481q, K481, B481_0, P481_0, P481_1, P481_2⟩ := q481
                have N481 := Fr.app N422 N481q
                have sa487 : Safe Z consts_1 s.vm T422.heap b419 := (Safe.keep K422 all0 Hr420.1 s_b419)
                have Hr486 := CHr.trans Hr424 (CHr.keep K481 (allS sa487 all0) Hr424.1)
                have n_v_481 : Z.heap.size ≤ v_481 := Nat.le_trans O485.1 B481_0
                have z_v_481 : h0.size ≤ v_481 := Nat.le_trans (Nat.le_trans (Nat.le_trans (Nat.le_refl _) E419.1) K422.1) B481_0
                have s_v_481 : Safe Z consts_1 s.vm T481.heap v_481 := Safe.keep K481 (allS sa487 all0) Hr424.1 (Safe.new B481_0)
                refine Go.astore (Ls' := #[.val (.int p1), .val (.int p2), .val (.int p3), .val (.int p4), .val (.int p5), .val (.int p6), .val (.int d6), .val (.int (p4 &&& (65535 : Int32))), .val (.int (p1 &&& (7 : Int32))), .val (.ref b419), .unset, .unset]) (pc' := 153) C X481 at_151 rfl rfl rfl ?_
                refine Go.goto (pc' := 266) C X481 at_153 (by decide) (by decide) ?_
                have O489 : Ext Z.heap T481.heap := (Ext.keep O485 K481 (allS n_b419 all0))
                have Si490 : Sin s s T481.heap := Sin.mono Si0 (Nat.le_trans (Nat.le_trans (Nat.le_trans (Nat.le_refl _) E419.1) K422.1) K481.1)
                refine Go.ldcH (pc' := 268) (n := 60) (vs := [(.int (108 : Int32)), (.int (97 : Int32)), (.int (119 : Int32)), (.int (45 : Int32)), (.int (101 : Int32)), (.int (110 : Int32)), (.int (102 : Int32)), (.int (111 : Int32)), (.int (114 : Int32)), (.int (99 : Int32)), (.int (101 : Int32)), (.int (109 : Int32)), (.int (101 : Int32)), (.int (110 : Int32)), (.int (116 : Int32))]) (z := (15 : Int32)) C X481 Si490 (EWc hw) Hr486.1 (tw hw 35 rfl) (wS hw) rfl (by decide) (by decide) (by decide) (by decide) (by decide) (by decide) (by decide) (by decide) at_266 rfl ?_
                intro T488 h488 b488 sC488 v488 k488 C488 X488 e488 Si488 E488 hR488 A488 F488c F488v B488 hne488
                have Hr491 := CHr.trans Hr486 hR488
                have sa492 : Safe Z consts_1 sC488.vm h488 b419 := (CHr.safe hR488 (Nat.lt_of_lt_of_le A419.lt (Nat.le_trans (Nat.le_trans (Nat.le_refl _) K422.1) K481.1)) (Safe.keep K481 (allS sa487 all0) Hr424.1 sa487))
                have hx488_b419 := hne488 b419 sa492
                have ne493 : a_422 ≠ b419 := (Nat.ne_of_gt (Nat.lt_of_lt_of_le A419.lt (Nat.le_trans (Nat.le_refl _) B422_0)))
                have c494 : AL Z h488 a_422 ka_422 .char (ch16 (leL ++ [(p4 &&& (65535 : Int32))])) := (AL.ext E488 (AL.keep P422_0 K481 (ninS ne493 nin0)))
                have hx488_a_422 := hne488 a_422 (Safe.al C488.2.1.alike c494 (by decide))
                have sa495 : Safe Z consts_1 sC488.vm h488 v_481 := (CHr.safe hR488 (Nat.lt_of_lt_of_le P481_2.lt (Nat.le_refl _)) s_v_481)
                have hx488_v_481 := hne488 v_481 sa495
                have tx496 : AL Z h488 v488 k488 .byte (by8 leL) := leV ▸ B488
                refine Go.aload (pc' := 270) C488 X488 at_268 rfl rfl rfl ?_
                have c498 : Exa Z h488 b419 "java/lang/String" := (Exa.ext E488 (Exa.keep c482 K481))
                have c499 : Fld Z h488 b419 "java/lang/String" "coder" "B" (.int (1 : Int32)) := (Fld.ext E488 P481_1)
                have O500 : Ext Z.heap h488 := (Ext.trans O489 E488)
                refine Go.callV (y := mN10) (z := mN10) (a := b488) (pc' := 273) C488 X488 (tw hw 38 rfl) (tw hw 39 rfl) (notFace_at C488.2.1 (tw hw 41 rfl)) (tw hw 41 rfl) (tw hw 40 rfl) A488 (by decide) (rm_eqC l Z a0 hw b488 b419 cP h488 O500 SC A488 F488c c498 c499 (Ne.symm hx488_b419.1) hP) (tw hw 42 rfl) (tw hw 3 rfl) e488 (argsL := [(.ref b419)]) (rest := []) (W := 0) rfl rfl pd_10 rfl (Nat.le_of_eq rfl) rfl (by decide) (by decide) (by decide) (by decide) at_270 rfl ?_
                intro T497 v497 L497 X497 q497
                obtain ⟨rfl, rfl, e497⟩ := q497
                have N497 := Fr.app N481 (Fr.nil _)
                refine Go.ifYes (pc' := 284) C488 X497 at_273 ((if0 _ _).trans (teq (x := (0 : Int32)) (y := (0 : Int32)) (by decide)).1) (by decide) (by decide) ?_
                refine Go.ldcH (pc' := 286) (n := 68) (vs := [(.int (100 : Int32)), (.int (105 : Int32)), (.int (115 : Int32)), (.int (116 : Int32)), (.int (114 : Int32)), (.int (105 : Int32)), (.int (99 : Int32)), (.int (116 : Int32)), (.int (45 : Int32)), (.int (97 : Int32)), (.int (116 : Int32)), (.int (116 : Int32)), (.int (111 : Int32)), (.int (114 : Int32)), (.int (110 : Int32)), (.int (101 : Int32)), (.int (121 : Int32))]) (z := (17 : Int32)) C488 X497 Si488 (EWc hw) Hr491.1 (tw hw 76 rfl) (wS hw) e497 (by decide) (by decide) (by decide) (by decide) (by decide) (by decide) (by decide) (by decide) at_284 rfl ?_
                intro T502 h502 b502 sC502 v502 k502 C502 X502 e502 Si502 E502 hR502 A502 F502c F502v B502 hne502
                have Hr503 := CHr.trans Hr491 hR502
                have sa504 : Safe Z consts_1 sC502.vm h502 b419 := (CHr.safe hR502 (Nat.lt_of_lt_of_le A419.lt (Nat.le_trans (Nat.le_trans (Nat.le_trans (Nat.le_refl _) K422.1) K481.1) E488.1)) sa492)
                have hx502_b419 := hne502 b419 sa504
                have c505 : AL Z h502 a_422 ka_422 .char (ch16 (leL ++ [(p4 &&& (65535 : Int32))])) := (AL.ext E502 c494)
                have hx502_a_422 := hne502 a_422 (Safe.al C502.2.1.alike c505 (by decide))
                have sa506 : Safe Z consts_1 sC502.vm h502 v_481 := (CHr.safe hR502 (Nat.lt_of_lt_of_le P481_2.lt (Nat.le_trans (Nat.le_refl _) E488.1)) sa495)
                have hx502_v_481 := hne502 v_481 sa506
                have tx507 : AL Z h502 v502 k502 .byte (by8 daL) := daV ▸ B502
                refine Go.aload (pc' := 288) C502 X502 at_286 rfl rfl rfl ?_
                have c509 : Exa Z h502 b419 "java/lang/String" := (Exa.ext E502 c498)
                have c510 : Fld Z h502 b419 "java/lang/String" "coder" "B" (.int (1 : Int32)) := (Fld.ext E502 c499)
                have O511 : Ext Z.heap h502 := (Ext.trans O500 E502)
                refine Go.callV (y := mN10) (z := mN10) (a := b502) (pc' := 291) C502 X502 (tw hw 38 rfl) (tw hw 39 rfl) (notFace_at C502.2.1 (tw hw 41 rfl)) (tw hw 41 rfl) (tw hw 40 rfl) A502 (by decide) (rm_eqC l Z a0 hw b502 b419 cP h502 O511 SC A502 F502c c509 c510 (Ne.symm hx502_b419.1) hP) (tw hw 42 rfl) (tw hw 3 rfl) e502 (argsL := [(.ref b419)]) (rest := []) (W := 0) rfl rfl pd_10 rfl (Nat.le_of_eq rfl) rfl (by decide) (by decide) (by decide) (by decide) at_288 rfl ?_
                intro T508 v508 L508 X508 q508
                obtain ⟨rfl, rfl, e508⟩ := q508
                have N508 := Fr.app N497 (Fr.nil _)
                refine Go.ifYes (pc' := 302) C502 X508 at_291 ((if0 _ _).trans (teq (x := (0 : Int32)) (y := (0 : Int32)) (by decide)).1) (by decide) (by decide) ?_
                refine Go.aconstNull (pc' := 303) C502 X508 at_302 rfl ?_
                refine Go.astore (Ls' := #[.val (.int p1), .val (.int p2), .val (.int p3), .val (.int p4), .val (.int p5), .val (.int p6), .val (.int d6), .val (.int (p4 &&& (65535 : Int32))), .val (.int (p1 &&& (7 : Int32))), .val (.ref b419), .val .null, .unset]) (pc' := 305) C502 X508 at_303 rfl rfl rfl ?_
                refine Go.aload (pc' := 307) C502 X508 at_305 rfl rfl rfl ?_
                have ne514 : tle ≠ b419 := Nat.ne_of_lt (Nat.lt_of_lt_of_le (Nat.lt_of_lt_of_le le_0.lt O0.1) (Nat.le_trans (Nat.le_refl _) (Nat.le_of_eq g419.symm)))
                have ne515 : tda ≠ b419 := Nat.ne_of_lt (Nat.lt_of_lt_of_le (Nat.lt_of_lt_of_le da_0.lt O0.1) (Nat.le_trans (Nat.le_refl _) (Nat.le_of_eq g419.symm)))
                refine Go.callS (y := mN0) (pc' := 310) C502 X508 (tw hw 51 rfl) (tw hw 52 rfl) (by decide) (rm_nmUno l Z a0 hw va vk le0 tle lev lek da0 tda dav dak b419 cP h502 O511 SV Ev Av Tle le_0 le_1 le_2 le_3 Tda da_0 da_1 da_2 da_3 c509 c510 SC hP ne514 ne515) (tw hw 53 rfl) (tw hw 49 rfl) e508 (argsL := [(.ref b419)]) (rest := []) (W := 0) rfl rfl pd_13 rfl (Nat.le_of_eq rfl) rfl (by decide) (by decide) (by decide) (by decide) at_307 rfl ?_
                intro T513 v513 L513 X513 q513
                obtain ⟨rfl, N513q, K513⟩ := q513
                have N513 := Fr.app N508 N513q
                have Hr516 := CHr.trans Hr503 (CHr.keep K513 all0 Hr503.1)
                refine Go.aload (pc' := 312) C502 X513 at_310 rfl rfl rfl ?_
                refine Go.acmpNo (pc' := 315) C502 X513 at_312 rfl rfl (XT.aa_ne_f rfl) rfl ?_
                refine Go.iconst (z := (1 : Int32)) (pc' := 316) C502 X513 at_315 rfl rfl ?_
                refine Go.goto (pc' := 320) C502 X513 at_316 (by decide) (by decide) ?_
                have K517 : Keep h0 T513.heap [] := (((((((Keep.refl h0 []).ext E419).trans K422 all0).trans K481 (allS (Or.inr z_b419) all0)).ext E488).ext E502).trans K513 all0)
                have Si518 : Sin s sC502 T513.heap := Sin.mono Si502 (Nat.le_trans (Nat.le_refl _) K513.1)
                exact Go.retNH C502 X513 Si518 (EWc hw) Hr516 rfl at_320 (by simp) ⟨rfl, N513, K517⟩ (by decide) (by decide)
            · refine Go.ifNo (pc' := 135) C X419 at_132 ((if0 _ _).trans (feq (x := d6) (y := (0 : Int32)) hc132_421).1) rfl ?_
              refine Go.iload (pc' := 137) C X419 at_135 rfl rfl ?_
              have O520 : Ext Z.heap h419 := (Ext.trans O0 E419)
              refine Go.callS (y := mN3) (pc' := 140) C X419 (tw hw 101 rfl) (tw hw 102 rfl) (by decide) (rm_ar_daLonger l Z a0 hw p4 h419 O520 ) (tw hw 103 rfl) (tw hw 6 rfl) e419 (argsL := [(.int (p4 &&& (65535 : Int32)))]) (rest := [(.ref b419), (.ref b419)]) (W := 2) rfl rfl pd_14 rfl (Nat.le_of_eq rfl) rfl (by decide) (by decide) (by decide) (by decide) at_137 rfl ?_
              intro T519 v519 L519 X519 q519
              obtain ⟨a_519, ka_519, rfl, N519q, K519, B519_0, P519_0⟩ := q519
              have N519 := Fr.app N101 N519q
              have Hr521 := CHr.trans Hr420 (CHr.keep K519 all0 Hr420.1)
              have n_a_519 : Z.heap.size ≤ a_519 := Nat.le_trans O520.1 B519_0
              have z_a_519 : h0.size ≤ a_519 := Nat.le_trans (Nat.le_trans (Nat.le_refl _) E419.1) B519_0
              have s_a_519 : Safe Z consts_1 s.vm T519.heap a_519 := Safe.keep K519 all0 Hr420.1 (Safe.new B519_0)
              refine Go.goto (pc' := 148) C X519 at_140 (by decide) (by decide) ?_
              have hlen : (daL ++ [(p4 &&& (65535 : Int32))]).length = 18 := by rfl
              rcases split16 (daL ++ [(p4 &&& (65535 : Int32))]) (app16 (by decide) (m16 p4)) with hAll | ⟨j, xj, hj, hx, hx2, hb⟩
              · have c523 : Exa Z T519.heap b419 "java/lang/String" := (Exa.keep A419 K519)
                have c524 : Fld Z T519.heap b419 "java/lang/String" "value" "[B" .null := (Fld.keep F419_value K519 nin0)
                have c525 : Fld Z T519.heap b419 "java/lang/String" "coder" "B" (.int (0 : Int32)) := (Fld.keep F419_coder K519 nin0)
                have O526 : Ext Z.heap T519.heap := (Ext.keep O520 K519 all0)
                refine Go.callI (y := mN8) (a := b419) (pc' := 151) C X519 rfl (tw hw 9 rfl) (tw hw 10 rfl) (by decide) (rm_sI1 l Z a0 hw b419 a_519 ka_519 ((daL ++ [(p4 &&& (65535 : Int32))])) cP T519.heap O526 c523 c524 c525 P519_0 SC hAll (by rw [hlen]; decide) (by rw [hlen]; decide) (by rw [hlen]; decide) hP n_b419) (tw hw 11 rfl) (tw hw 3 rfl) rfl (argsL := [(.ref a_519)]) (rest := [(.ref b419)]) (W := 1) rfl rfl pd_12 rfl (Nat.le_of_eq rfl) rfl (by decide) (by decide) (by decide) (by decide) rfl at_148 rfl ?_
                intro T522 v522 L522 X522 q522
                obtain ⟨v_522, kv_522, rfl, N522q, K522, B522_0, P522_0, P522_1, P522_2⟩ := q522
                have N522 := Fr.app N519 N522q
                have sa528 : Safe Z consts_1 s.vm T519.heap b419 := (Safe.keep K519 all0 Hr420.1 s_b419)
                have Hr527 := CHr.trans Hr521 (CHr.keep K522 (allS sa528 all0) Hr521.1)
                have n_v_522 : Z.heap.size ≤ v_522 := Nat.le_trans O526.1 B522_0
                have z_v_522 : h0.size ≤ v_522 := Nat.le_trans (Nat.le_trans (Nat.le_trans (Nat.le_refl _) E419.1) K519.1) B522_0
                have s_v_522 : Safe Z consts_1 s.vm T522.heap v_522 := Safe.keep K522 (allS sa528 all0) Hr521.1 (Safe.new B522_0)
                refine Go.astore (Ls' := #[.val (.int p1), .val (.int p2), .val (.int p3), .val (.int p4), .val (.int p5), .val (.int p6), .val (.int d6), .val (.int (p4 &&& (65535 : Int32))), .val (.int (p1 &&& (7 : Int32))), .val (.ref b419), .unset, .unset]) (pc' := 153) C X522 at_151 rfl rfl rfl ?_
                refine Go.goto (pc' := 266) C X522 at_153 (by decide) (by decide) ?_
                have O530 : Ext Z.heap T522.heap := (Ext.keep O526 K522 (allS n_b419 all0))
                have Si531 : Sin s s T522.heap := Sin.mono Si0 (Nat.le_trans (Nat.le_trans (Nat.le_trans (Nat.le_refl _) E419.1) K519.1) K522.1)
                refine Go.ldcH (pc' := 268) (n := 60) (vs := [(.int (108 : Int32)), (.int (97 : Int32)), (.int (119 : Int32)), (.int (45 : Int32)), (.int (101 : Int32)), (.int (110 : Int32)), (.int (102 : Int32)), (.int (111 : Int32)), (.int (114 : Int32)), (.int (99 : Int32)), (.int (101 : Int32)), (.int (109 : Int32)), (.int (101 : Int32)), (.int (110 : Int32)), (.int (116 : Int32))]) (z := (15 : Int32)) C X522 Si531 (EWc hw) Hr527.1 (tw hw 35 rfl) (wS hw) rfl (by decide) (by decide) (by decide) (by decide) (by decide) (by decide) (by decide) (by decide) at_266 rfl ?_
                intro T529 h529 b529 sC529 v529 k529 C529 X529 e529 Si529 E529 hR529 A529 F529c F529v B529 hne529
                have Hr532 := CHr.trans Hr527 hR529
                have sa533 : Safe Z consts_1 sC529.vm h529 b419 := (CHr.safe hR529 (Nat.lt_of_lt_of_le A419.lt (Nat.le_trans (Nat.le_trans (Nat.le_refl _) K519.1) K522.1)) (Safe.keep K522 (allS sa528 all0) Hr521.1 sa528))
                have hx529_b419 := hne529 b419 sa533
                have ne534 : a_519 ≠ b419 := (Nat.ne_of_gt (Nat.lt_of_lt_of_le A419.lt (Nat.le_trans (Nat.le_refl _) B519_0)))
                have c535 : AL Z h529 a_519 ka_519 .char (ch16 (daL ++ [(p4 &&& (65535 : Int32))])) := (AL.ext E529 (AL.keep P519_0 K522 (ninS ne534 nin0)))
                have hx529_a_519 := hne529 a_519 (Safe.al C529.2.1.alike c535 (by decide))
                have sa536 : Safe Z consts_1 sC529.vm h529 v_522 := (CHr.safe hR529 (Nat.lt_of_lt_of_le P522_2.lt (Nat.le_refl _)) s_v_522)
                have hx529_v_522 := hne529 v_522 sa536
                have tx537 : AL Z h529 v529 k529 .byte (by8 leL) := leV ▸ B529
                refine Go.aload (pc' := 270) C529 X529 at_268 rfl rfl rfl ?_
                have c539 : Exa Z h529 b419 "java/lang/String" := (Exa.ext E529 (Exa.keep c523 K522))
                have c540 : Fld Z h529 b419 "java/lang/String" "value" "[B" (.ref v_522) := (Fld.ext E529 P522_0)
                have c541 : Fld Z h529 b419 "java/lang/String" "coder" "B" (.int (0 : Int32)) := (Fld.ext E529 P522_1)
                have c542 : AL Z h529 v_522 kv_522 .byte (by8 (daL ++ [(p4 &&& (65535 : Int32))])) := (AL.ext E529 P522_2)
                have O543 : Ext Z.heap h529 := (Ext.trans O530 E529)
                refine Go.callV (y := mN10) (z := mN10) (a := b529) (pc' := 273) C529 X529 (tw hw 38 rfl) (tw hw 39 rfl) (notFace_at C529.2.1 (tw hw 41 rfl)) (tw hw 41 rfl) (tw hw 40 rfl) A529 (by decide) (rm_eqS l Z a0 hw b529 b419 v529 v_522 k529 kv_522 leL ((daL ++ [(p4 &&& (65535 : Int32))])) cP h529 O543 SC A529 F529v F529c tx537 c539 c540 c541 c542 (Ne.symm hx529_b419.1) hP (by decide) (by rw [hlen]; decide)) (tw hw 42 rfl) (tw hw 3 rfl) e529 (argsL := [(.ref b419)]) (rest := []) (W := 0) rfl rfl pd_10 rfl (Nat.le_of_eq rfl) rfl (by decide) (by decide) (by decide) (by decide) at_270 rfl ?_
                intro T538 v538 L538 X538 q538
                obtain ⟨rfl, rfl, e538⟩ := q538
                have N538 := Fr.app N522 (Fr.nil _)
                by_cases hc273_544 : (if by8 leL = by8 (daL ++ [(p4 &&& (65535 : Int32))]) then (1 : Int32) else 0) = (0 : Int32)
                · refine Go.ifYes (pc' := 284) C529 X538 at_273 ((if0 _ _).trans (teq (x := (if by8 leL = by8 (daL ++ [(p4 &&& (65535 : Int32))]) then (1 : Int32) else 0)) (y := (0 : Int32)) hc273_544).1) (by decide) (by decide) ?_
                  refine Go.ldcH (pc' := 286) (n := 68) (vs := [(.int (100 : Int32)), (.int (105 : Int32)), (.int (115 : Int32)), (.int (116 : Int32)), (.int (114 : Int32)), (.int (105 : Int32)), (.int (99 : Int32)), (.int (116 : Int32)), (.int (45 : Int32)), (.int (97 : Int32)), (.int (116 : Int32)), (.int (116 : Int32)), (.int (111 : Int32)), (.int (114 : Int32)), (.int (110 : Int32)), (.int (101 : Int32)), (.int (121 : Int32))]) (z := (17 : Int32)) C529 X538 Si529 (EWc hw) Hr532.1 (tw hw 76 rfl) (wS hw) e538 (by decide) (by decide) (by decide) (by decide) (by decide) (by decide) (by decide) (by decide) at_284 rfl ?_
                  intro T545 h545 b545 sC545 v545 k545 C545 X545 e545 Si545 E545 hR545 A545 F545c F545v B545 hne545
                  have Hr546 := CHr.trans Hr532 hR545
                  have sa547 : Safe Z consts_1 sC545.vm h545 b419 := (CHr.safe hR545 (Nat.lt_of_lt_of_le A419.lt (Nat.le_trans (Nat.le_trans (Nat.le_trans (Nat.le_refl _) K519.1) K522.1) E529.1)) sa533)
                  have hx545_b419 := hne545 b419 sa547
                  have c548 : AL Z h545 a_519 ka_519 .char (ch16 (daL ++ [(p4 &&& (65535 : Int32))])) := (AL.ext E545 c535)
                  have hx545_a_519 := hne545 a_519 (Safe.al C545.2.1.alike c548 (by decide))
                  have sa549 : Safe Z consts_1 sC545.vm h545 v_522 := (CHr.safe hR545 (Nat.lt_of_lt_of_le P522_2.lt (Nat.le_trans (Nat.le_refl _) E529.1)) sa536)
                  have hx545_v_522 := hne545 v_522 sa549
                  have tx550 : AL Z h545 v545 k545 .byte (by8 daL) := daV ▸ B545
                  refine Go.aload (pc' := 288) C545 X545 at_286 rfl rfl rfl ?_
                  have c552 : Exa Z h545 b419 "java/lang/String" := (Exa.ext E545 c539)
                  have c553 : Fld Z h545 b419 "java/lang/String" "value" "[B" (.ref v_522) := (Fld.ext E545 c540)
                  have c554 : Fld Z h545 b419 "java/lang/String" "coder" "B" (.int (0 : Int32)) := (Fld.ext E545 c541)
                  have c555 : AL Z h545 v_522 kv_522 .byte (by8 (daL ++ [(p4 &&& (65535 : Int32))])) := (AL.ext E545 c542)
                  have O556 : Ext Z.heap h545 := (Ext.trans O543 E545)
                  refine Go.callV (y := mN10) (z := mN10) (a := b545) (pc' := 291) C545 X545 (tw hw 38 rfl) (tw hw 39 rfl) (notFace_at C545.2.1 (tw hw 41 rfl)) (tw hw 41 rfl) (tw hw 40 rfl) A545 (by decide) (rm_eqS l Z a0 hw b545 b419 v545 v_522 k545 kv_522 daL ((daL ++ [(p4 &&& (65535 : Int32))])) cP h545 O556 SC A545 F545v F545c tx550 c552 c553 c554 c555 (Ne.symm hx545_b419.1) hP (by decide) (by rw [hlen]; decide)) (tw hw 42 rfl) (tw hw 3 rfl) e545 (argsL := [(.ref b419)]) (rest := []) (W := 0) rfl rfl pd_10 rfl (Nat.le_of_eq rfl) rfl (by decide) (by decide) (by decide) (by decide) at_288 rfl ?_
                  intro T551 v551 L551 X551 q551
                  obtain ⟨rfl, rfl, e551⟩ := q551
                  have N551 := Fr.app N538 (Fr.nil _)
                  by_cases hc291_557 : (if by8 daL = by8 (daL ++ [(p4 &&& (65535 : Int32))]) then (1 : Int32) else 0) = (0 : Int32)
                  · refine Go.ifYes (pc' := 302) C545 X551 at_291 ((if0 _ _).trans (teq (x := (if by8 daL = by8 (daL ++ [(p4 &&& (65535 : Int32))]) then (1 : Int32) else 0)) (y := (0 : Int32)) hc291_557).1) (by decide) (by decide) ?_
                    refine Go.aconstNull (pc' := 303) C545 X551 at_302 rfl ?_
                    refine Go.astore (Ls' := #[.val (.int p1), .val (.int p2), .val (.int p3), .val (.int p4), .val (.int p5), .val (.int p6), .val (.int d6), .val (.int (p4 &&& (65535 : Int32))), .val (.int (p1 &&& (7 : Int32))), .val (.ref b419), .val .null, .unset]) (pc' := 305) C545 X551 at_303 rfl rfl rfl ?_
                    refine Go.aload (pc' := 307) C545 X551 at_305 rfl rfl rfl ?_
                    have ne559 : tle ≠ b419 := Nat.ne_of_lt (Nat.lt_of_lt_of_le (Nat.lt_of_lt_of_le le_0.lt O0.1) (Nat.le_trans (Nat.le_refl _) (Nat.le_of_eq g419.symm)))
                    have ne560 : tda ≠ b419 := Nat.ne_of_lt (Nat.lt_of_lt_of_le (Nat.lt_of_lt_of_le da_0.lt O0.1) (Nat.le_trans (Nat.le_refl _) (Nat.le_of_eq g419.symm)))
                    refine Go.callS (y := mN0) (pc' := 310) C545 X551 (tw hw 51 rfl) (tw hw 52 rfl) (by decide) (rm_nmLno l Z a0 hw va vk le0 tle lev lek da0 tda dav dak b419 cP v_522 kv_522 ((daL ++ [(p4 &&& (65535 : Int32))])) h545 O556 SV Ev Av Tle le_0 le_1 le_2 le_3 Tda da_0 da_1 da_2 da_3 c552 c553 c554 c555 SC hP ne559 ne560 (by rw [hlen]; decide) (own_ifz hc273_544) (own_ifz hc291_557)) (tw hw 53 rfl) (tw hw 49 rfl) e551 (argsL := [(.ref b419)]) (rest := []) (W := 0) rfl rfl pd_13 rfl (Nat.le_of_eq rfl) rfl (by decide) (by decide) (by decide) (by decide) at_307 rfl ?_
                    intro T558 v558 L558 X558 q558
                    obtain ⟨rfl, N558q, K558⟩ := q558
                    have N558 := Fr.app N551 N558q
                    have Hr561 := CHr.trans Hr546 (CHr.keep K558 all0 Hr546.1)
                    refine Go.aload (pc' := 312) C545 X558 at_310 rfl rfl rfl ?_
                    refine Go.acmpNo (pc' := 315) C545 X558 at_312 rfl rfl (XT.aa_ne_f rfl) rfl ?_
                    refine Go.iconst (z := (1 : Int32)) (pc' := 316) C545 X558 at_315 rfl rfl ?_
                    refine Go.goto (pc' := 320) C545 X558 at_316 (by decide) (by decide) ?_
                    have K562 : Keep h0 T558.heap [] := (((((((Keep.refl h0 []).ext E419).trans K519 all0).trans K522 (allS (Or.inr z_b419) all0)).ext E529).ext E545).trans K558 all0)
                    have Si563 : Sin s sC545 T558.heap := Sin.mono Si545 (Nat.le_trans (Nat.le_refl _) K558.1)
                    exact Go.retNH C545 X558 Si563 (EWc hw) Hr561 rfl at_320 (by simp) ⟨rfl, N558, K562⟩ (by decide) (by decide)
                  · refine Go.ifNo (pc' := 294) C545 X551 at_291 ((if0 _ _).trans (feq (x := (if by8 daL = by8 (daL ++ [(p4 &&& (65535 : Int32))]) then (1 : Int32) else 0)) (y := (0 : Int32)) hc291_557).1) rfl ?_
                    refine Go.getS (pc' := 297) (host := "") C545 X551 (Or.inl (tw hw 110 rfl)) Via.refl e551 (Sda.ext O556) at_294 rfl ?_
                    intro T564 X564 e564
                    refine Go.astore (Ls' := #[.val (.int p1), .val (.int p2), .val (.int p3), .val (.int p4), .val (.int p5), .val (.int p6), .val (.int d6), .val (.int (p4 &&& (65535 : Int32))), .val (.int (p1 &&& (7 : Int32))), .val (.ref b419), .val (.ref da0), .unset]) (pc' := 299) C545 X564 at_297 rfl rfl rfl ?_
                    refine Go.goto (pc' := 305) C545 X564 at_299 (by decide) (by decide) ?_
                    refine Go.aload (pc' := 307) C545 X564 at_305 rfl rfl rfl ?_
                    have ne566 : tle ≠ b419 := Nat.ne_of_lt (Nat.lt_of_lt_of_le (Nat.lt_of_lt_of_le le_0.lt O0.1) (Nat.le_trans (Nat.le_refl _) (Nat.le_of_eq g419.symm)))
                    have ne567 : tda ≠ b419 := Nat.ne_of_lt (Nat.lt_of_lt_of_le (Nat.lt_of_lt_of_le da_0.lt O0.1) (Nat.le_trans (Nat.le_refl _) (Nat.le_of_eq g419.symm)))
                    refine Go.callS (y := mN0) (pc' := 310) C545 X564 (tw hw 51 rfl) (tw hw 52 rfl) (by decide) (rm_nmLda l Z a0 hw va vk le0 tle lev lek da0 tda dav dak b419 cP v_522 kv_522 ((daL ++ [(p4 &&& (65535 : Int32))])) h545 O556 SV Ev Av Tle le_0 le_1 le_2 le_3 Tda da_0 da_1 da_2 da_3 c552 c553 c554 c555 SC hP ne566 ne567 (by rw [hlen]; decide) (own_ifz hc273_544) (own_ifn hc291_557)) (tw hw 53 rfl) (tw hw 49 rfl) e564 (argsL := [(.ref b419)]) (rest := []) (W := 0) rfl rfl pd_13 rfl (Nat.le_of_eq rfl) rfl (by decide) (by decide) (by decide) (by decide) at_307 rfl ?_
                    intro T565 v565 L565 X565 q565
                    obtain ⟨rfl, N565q, K565⟩ := q565
                    have N565 := Fr.app N551 N565q
                    have Hr568 := CHr.trans Hr546 (CHr.keep K565 all0 Hr546.1)
                    refine Go.aload (pc' := 312) C545 X565 at_310 rfl rfl rfl ?_
                    refine Go.acmpNo (pc' := 315) C545 X565 at_312 rfl rfl (XT.aa_ne_f rfl) rfl ?_
                    refine Go.iconst (z := (1 : Int32)) (pc' := 316) C545 X565 at_315 rfl rfl ?_
                    refine Go.goto (pc' := 320) C545 X565 at_316 (by decide) (by decide) ?_
                    have K569 : Keep h0 T565.heap [] := (((((((Keep.refl h0 []).ext E419).trans K519 all0).trans K522 (allS (Or.inr z_b419) all0)).ext E529).ext E545).trans K565 all0)
                    have Si570 : Sin s sC545 T565.heap := Sin.mono Si545 (Nat.le_trans (Nat.le_refl _) K565.1)
                    exact Go.retNH C545 X565 Si570 (EWc hw) Hr568 rfl at_320 (by simp) ⟨rfl, N565, K569⟩ (by decide) (by decide)
                · refine Go.ifNo (pc' := 276) C529 X538 at_273 ((if0 _ _).trans (feq (x := (if by8 leL = by8 (daL ++ [(p4 &&& (65535 : Int32))]) then (1 : Int32) else 0)) (y := (0 : Int32)) hc273_544).1) rfl ?_
                  refine Go.getS (pc' := 279) (host := "") C529 X538 (Or.inl (tw hw 48 rfl)) Via.refl e538 (Sle.ext O543) at_276 rfl ?_
                  intro T571 X571 e571
                  refine Go.astore (Ls' := #[.val (.int p1), .val (.int p2), .val (.int p3), .val (.int p4), .val (.int p5), .val (.int p6), .val (.int d6), .val (.int (p4 &&& (65535 : Int32))), .val (.int (p1 &&& (7 : Int32))), .val (.ref b419), .val (.ref le0), .unset]) (pc' := 281) C529 X571 at_279 rfl rfl rfl ?_
                  refine Go.goto (pc' := 305) C529 X571 at_281 (by decide) (by decide) ?_
                  refine Go.aload (pc' := 307) C529 X571 at_305 rfl rfl rfl ?_
                  have ne573 : tle ≠ b419 := Nat.ne_of_lt (Nat.lt_of_lt_of_le (Nat.lt_of_lt_of_le le_0.lt O0.1) (Nat.le_trans (Nat.le_refl _) (Nat.le_of_eq g419.symm)))
                  have ne574 : tda ≠ b419 := Nat.ne_of_lt (Nat.lt_of_lt_of_le (Nat.lt_of_lt_of_le da_0.lt O0.1) (Nat.le_trans (Nat.le_refl _) (Nat.le_of_eq g419.symm)))
                  refine Go.callS (y := mN0) (pc' := 310) C529 X571 (tw hw 51 rfl) (tw hw 52 rfl) (by decide) (rm_nmLle l Z a0 hw va vk le0 tle lev lek da0 tda dav dak b419 cP v_522 kv_522 ((daL ++ [(p4 &&& (65535 : Int32))])) h529 O543 SV Ev Av Tle le_0 le_1 le_2 le_3 Tda da_0 da_1 da_2 da_3 c539 c540 c541 c542 SC hP ne573 ne574 (by rw [hlen]; decide) (own_ifn hc273_544)) (tw hw 53 rfl) (tw hw 49 rfl) e571 (argsL := [(.ref b419)]) (rest := []) (W := 0) rfl rfl pd_13 rfl (Nat.le_of_eq rfl) rfl (by decide) (by decide) (by decide) (by decide) at_307 rfl ?_
                  intro T572 v572 L572 X572 q572
                  obtain ⟨rfl, N572q, K572⟩ := q572
                  have N572 := Fr.app N538 N572q
                  have Hr575 := CHr.trans Hr532 (CHr.keep K572 all0 Hr532.1)
                  refine Go.aload (pc' := 312) C529 X572 at_310 rfl rfl rfl ?_
                  refine Go.acmpNo (pc' := 315) C529 X572 at_312 rfl rfl (XT.aa_ne_f rfl) rfl ?_
                  refine Go.iconst (z := (1 : Int32)) (pc' := 316) C529 X572 at_315 rfl rfl ?_
                  refine Go.goto (pc' := 320) C529 X572 at_316 (by decide) (by decide) ?_
                  have K576 : Keep h0 T572.heap [] := ((((((Keep.refl h0 []).ext E419).trans K519 all0).trans K522 (allS (Or.inr z_b419) all0)).ext E529).trans K572 all0)
                  have Si577 : Sin s sC529 T572.heap := Sin.mono Si529 (Nat.le_trans (Nat.le_refl _) K572.1)
                  exact Go.retNH C529 X572 Si577 (EWc hw) Hr575 rfl at_320 (by simp) ⟨rfl, N572, K576⟩ (by decide) (by decide)
              · have c579 : Exa Z T519.heap b419 "java/lang/String" := (Exa.keep A419 K519)
                have c580 : Fld Z T519.heap b419 "java/lang/String" "value" "[B" .null := (Fld.keep F419_value K519 nin0)
                have c581 : Fld Z T519.heap b419 "java/lang/String" "coder" "B" (.int (0 : Int32)) := (Fld.keep F419_coder K519 nin0)
                have O582 : Ext Z.heap T519.heap := (Ext.keep O520 K519 all0)
                refine Go.callI (y := mN8) (a := b419) (pc' := 151) C X519 rfl (tw hw 9 rfl) (tw hw 10 rfl) (by decide) (rm_sU1 l Z a0 hw b419 a_519 ka_519 ((daL ++ [(p4 &&& (65535 : Int32))])) j xj cP T519.heap O582 c579 c580 c581 P519_0 SC SH SLo SAd (by rw [hlen]; decide) hj hx hx2 hb hP n_b419) (tw hw 11 rfl) (tw hw 3 rfl) rfl (argsL := [(.ref a_519)]) (rest := [(.ref b419)]) (W := 1) rfl rfl pd_12 rfl (Nat.le_of_eq rfl) rfl (by decide) (by decide) (by decide) (by decide) rfl at_148 rfl ?_
                intro T578 v578 L578 X578 q578
                obtain ⟨v_578, kv_578, ys_578, rfl, N578q, K578, B578_0, P578_0, P578_1, P578_2⟩ := q578
                have N578 := Fr.app N519 N578q
                have sa584 : Safe Z consts_1 s.vm T519.heap b419 := (Safe.keep K519 all0 Hr420.1 s_b419)
                have Hr583 := CHr.trans Hr521 (CHr.keep K578 (allS sa584 all0) Hr521.1)
                have n_v_578 : Z.heap.size ≤ v_578 := Nat.le_trans O582.1 B578_0
                have z_v_578 : h0.size ≤ v_578 := Nat.le_trans (Nat.le_trans (Nat.le_trans (Nat.le_refl _) E419.1) K519.1) B578_0
                have s_v_578 : Safe Z consts_1 s.vm T578.heap v_578 := Safe.keep K578 (allS sa584 all0) Hr521.1 (Safe.new B578_0)
                refine Go.astore (Ls' := #[.val (.int p1), .val (.int p2), .val (.int p3), .val (.int p4), .val (.int p5), .val (.int p6), .val (.int d6), .val (.int (p4 &&& (65535 : Int32))), .val (.int (p1 &&& (7 : Int32))), .val (.ref b419), .unset, .unset]) (pc' := 153) C X578 at_151 rfl rfl rfl ?_
                refine Go.goto (pc' := 266) C X578 at_153 (by decide) (by decide) ?_
                have O586 : Ext Z.heap T578.heap := (Ext.keep O582 K578 (allS n_b419 all0))
                have Si587 : Sin s s T578.heap := Sin.mono Si0 (Nat.le_trans (Nat.le_trans (Nat.le_trans (Nat.le_refl _) E419.1) K519.1) K578.1)
                refine Go.ldcH (pc' := 268) (n := 60) (vs := [(.int (108 : Int32)), (.int (97 : Int32)), (.int (119 : Int32)), (.int (45 : Int32)), (.int (101 : Int32)), (.int (110 : Int32)), (.int (102 : Int32)), (.int (111 : Int32)), (.int (114 : Int32)), (.int (99 : Int32)), (.int (101 : Int32)), (.int (109 : Int32)), (.int (101 : Int32)), (.int (110 : Int32)), (.int (116 : Int32))]) (z := (15 : Int32)) C X578 Si587 (EWc hw) Hr583.1 (tw hw 35 rfl) (wS hw) rfl (by decide) (by decide) (by decide) (by decide) (by decide) (by decide) (by decide) (by decide) at_266 rfl ?_
                intro T585 h585 b585 sC585 v585 k585 C585 X585 e585 Si585 E585 hR585 A585 F585c F585v B585 hne585
                have Hr588 := CHr.trans Hr583 hR585
                have sa589 : Safe Z consts_1 sC585.vm h585 b419 := (CHr.safe hR585 (Nat.lt_of_lt_of_le A419.lt (Nat.le_trans (Nat.le_trans (Nat.le_refl _) K519.1) K578.1)) (Safe.keep K578 (allS sa584 all0) Hr521.1 sa584))
                have hx585_b419 := hne585 b419 sa589
                have ne590 : a_519 ≠ b419 := (Nat.ne_of_gt (Nat.lt_of_lt_of_le A419.lt (Nat.le_trans (Nat.le_refl _) B519_0)))
                have c591 : AL Z h585 a_519 ka_519 .char (ch16 (daL ++ [(p4 &&& (65535 : Int32))])) := (AL.ext E585 (AL.keep P519_0 K578 (ninS ne590 nin0)))
                have hx585_a_519 := hne585 a_519 (Safe.al C585.2.1.alike c591 (by decide))
                have sa592 : Safe Z consts_1 sC585.vm h585 v_578 := (CHr.safe hR585 (Nat.lt_of_lt_of_le P578_2.lt (Nat.le_refl _)) s_v_578)
                have hx585_v_578 := hne585 v_578 sa592
                have tx593 : AL Z h585 v585 k585 .byte (by8 leL) := leV ▸ B585
                refine Go.aload (pc' := 270) C585 X585 at_268 rfl rfl rfl ?_
                have c595 : Exa Z h585 b419 "java/lang/String" := (Exa.ext E585 (Exa.keep c579 K578))
                have c596 : Fld Z h585 b419 "java/lang/String" "coder" "B" (.int (1 : Int32)) := (Fld.ext E585 P578_1)
                have O597 : Ext Z.heap h585 := (Ext.trans O586 E585)
                refine Go.callV (y := mN10) (z := mN10) (a := b585) (pc' := 273) C585 X585 (tw hw 38 rfl) (tw hw 39 rfl) (notFace_at C585.2.1 (tw hw 41 rfl)) (tw hw 41 rfl) (tw hw 40 rfl) A585 (by decide) (rm_eqC l Z a0 hw b585 b419 cP h585 O597 SC A585 F585c c595 c596 (Ne.symm hx585_b419.1) hP) (tw hw 42 rfl) (tw hw 3 rfl) e585 (argsL := [(.ref b419)]) (rest := []) (W := 0) rfl rfl pd_10 rfl (Nat.le_of_eq rfl) rfl (by decide) (by decide) (by decide) (by decide) at_270 rfl ?_
                intro T594 v594 L594 X594 q594
                obtain ⟨rfl, rfl, e594⟩ := q594
                have N594 := Fr.app N578 (Fr.nil _)
                refine Go.ifYes (pc' := 284) C585 X594 at_273 ((if0 _ _).trans (teq (x := (0 : Int32)) (y := (0 : Int32)) (by decide)).1) (by decide) (by decide) ?_
                refine Go.ldcH (pc' := 286) (n := 68) (vs := [(.int (100 : Int32)), (.int (105 : Int32)), (.int (115 : Int32)), (.int (116 : Int32)), (.int (114 : Int32)), (.int (105 : Int32)), (.int (99 : Int32)), (.int (116 : Int32)), (.int (45 : Int32)), (.int (97 : Int32)), (.int (116 : Int32)), (.int (116 : Int32)), (.int (111 : Int32)), (.int (114 : Int32)), (.int (110 : Int32)), (.int (101 : Int32)), (.int (121 : Int32))]) (z := (17 : Int32)) C585 X594 Si585 (EWc hw) Hr588.1 (tw hw 76 rfl) (wS hw) e594 (by decide) (by decide) (by decide) (by decide) (by decide) (by decide) (by decide) (by decide) at_284 rfl ?_
                intro T599 h599 b599 sC599 v599 k599 C599 X599 e599 Si599 E599 hR599 A599 F599c F599v B599 hne599
                have Hr600 := CHr.trans Hr588 hR599
                have sa601 : Safe Z consts_1 sC599.vm h599 b419 := (CHr.safe hR599 (Nat.lt_of_lt_of_le A419.lt (Nat.le_trans (Nat.le_trans (Nat.le_trans (Nat.le_refl _) K519.1) K578.1) E585.1)) sa589)
                have hx599_b419 := hne599 b419 sa601
                have c602 : AL Z h599 a_519 ka_519 .char (ch16 (daL ++ [(p4 &&& (65535 : Int32))])) := (AL.ext E599 c591)
                have hx599_a_519 := hne599 a_519 (Safe.al C599.2.1.alike c602 (by decide))
                have sa603 : Safe Z consts_1 sC599.vm h599 v_578 := (CHr.safe hR599 (Nat.lt_of_lt_of_le P578_2.lt (Nat.le_trans (Nat.le_refl _) E585.1)) sa592)
                have hx599_v_578 := hne599 v_578 sa603
                have tx604 : AL Z h599 v599 k599 .byte (by8 daL) := daV ▸ B599
                refine Go.aload (pc' := 288) C599 X599 at_286 rfl rfl rfl ?_
                have c606 : Exa Z h599 b419 "java/lang/String" := (Exa.ext E599 c595)
                have c607 : Fld Z h599 b419 "java/lang/String" "coder" "B" (.int (1 : Int32)) := (Fld.ext E599 c596)
                have O608 : Ext Z.heap h599 := (Ext.trans O597 E599)
                refine Go.callV (y := mN10) (z := mN10) (a := b599) (pc' := 291) C599 X599 (tw hw 38 rfl) (tw hw 39 rfl) (notFace_at C599.2.1 (tw hw 41 rfl)) (tw hw 41 rfl) (tw hw 40 rfl) A599 (by decide) (rm_eqC l Z a0 hw b599 b419 cP h599 O608 SC A599 F599c c606 c607 (Ne.symm hx599_b419.1) hP) (tw hw 42 rfl) (tw hw 3 rfl) e599 (argsL := [(.ref b419)]) (rest := []) (W := 0) rfl rfl pd_10 rfl (Nat.le_of_eq rfl) rfl (by decide) (by decide) (by decide) (by decide) at_288 rfl ?_
                intro T605 v605 L605 X605 q605
                obtain ⟨rfl, rfl, e605⟩ := q605
                have N605 := Fr.app N594 (Fr.nil _)
                refine Go.ifYes (pc' := 302) C599 X605 at_291 ((if0 _ _).trans (teq (x := (0 : Int32)) (y := (0 : Int32)) (by decide)).1) (by decide) (by decide) ?_
                refine Go.aconstNull (pc' := 303) C599 X605 at_302 rfl ?_
                refine Go.astore (Ls' := #[.val (.int p1), .val (.int p2), .val (.int p3), .val (.int p4), .val (.int p5), .val (.int p6), .val (.int d6), .val (.int (p4 &&& (65535 : Int32))), .val (.int (p1 &&& (7 : Int32))), .val (.ref b419), .val .null, .unset]) (pc' := 305) C599 X605 at_303 rfl rfl rfl ?_
                refine Go.aload (pc' := 307) C599 X605 at_305 rfl rfl rfl ?_
                have ne611 : tle ≠ b419 := Nat.ne_of_lt (Nat.lt_of_lt_of_le (Nat.lt_of_lt_of_le le_0.lt O0.1) (Nat.le_trans (Nat.le_refl _) (Nat.le_of_eq g419.symm)))
                have ne612 : tda ≠ b419 := Nat.ne_of_lt (Nat.lt_of_lt_of_le (Nat.lt_of_lt_of_le da_0.lt O0.1) (Nat.le_trans (Nat.le_refl _) (Nat.le_of_eq g419.symm)))
                refine Go.callS (y := mN0) (pc' := 310) C599 X605 (tw hw 51 rfl) (tw hw 52 rfl) (by decide) (rm_nmUno l Z a0 hw va vk le0 tle lev lek da0 tda dav dak b419 cP h599 O608 SV Ev Av Tle le_0 le_1 le_2 le_3 Tda da_0 da_1 da_2 da_3 c606 c607 SC hP ne611 ne612) (tw hw 53 rfl) (tw hw 49 rfl) e605 (argsL := [(.ref b419)]) (rest := []) (W := 0) rfl rfl pd_13 rfl (Nat.le_of_eq rfl) rfl (by decide) (by decide) (by decide) (by decide) at_307 rfl ?_
                intro T610 v610 L610 X610 q610
                obtain ⟨rfl, N610q, K610⟩ := q610
                have N610 := Fr.app N605 N610q
                have Hr613 := CHr.trans Hr600 (CHr.keep K610 all0 Hr600.1)
                refine Go.aload (pc' := 312) C599 X610 at_310 rfl rfl rfl ?_
                refine Go.acmpNo (pc' := 315) C599 X610 at_312 rfl rfl (XT.aa_ne_f rfl) rfl ?_
                refine Go.iconst (z := (1 : Int32)) (pc' := 316) C599 X610 at_315 rfl rfl ?_
                refine Go.goto (pc' := 320) C599 X610 at_316 (by decide) (by decide) ?_
                have K614 : Keep h0 T610.heap [] := (((((((Keep.refl h0 []).ext E419).trans K519 all0).trans K578 (allS (Or.inr z_b419) all0)).ext E585).ext E599).trans K610 all0)
                have Si615 : Sin s sC599 T610.heap := Sin.mono Si599 (Nat.le_trans (Nat.le_refl _) K610.1)
                exact Go.retNH C599 X610 Si615 (EWc hw) Hr613 rfl at_320 (by simp) ⟨rfl, N610, K614⟩ (by decide) (by decide)
          · refine Go.icmpYes (pc' := 156) C X101 at_123 (feq (x := (p1 &&& (7 : Int32))) (y := (3 : Int32)) hc123_418).2 (by decide) (by decide) ?_
            refine Go.iload (pc' := 158) C X101 at_156 rfl rfl ?_
            refine Go.iconst (z := (4 : Int32)) (pc' := 159) C X101 at_158 rfl rfl ?_
            by_cases hc159_616 : (p1 &&& (7 : Int32)) = (4 : Int32)
            · refine Go.icmpNo (pc' := 162) C X101 at_159 (teq (x := (p1 &&& (7 : Int32))) (y := (4 : Int32)) hc159_616).2 rfl ?_
              refine Go.newO (pc' := 165) C X101 (tw hw 1 rfl) (tw hw 2 rfl) (tw hw 3 rfl) e101 (by decide) (by decide) at_162 rfl ?_
              intro T617 h617 b617 X617 e617 g617 E617 A617 D617
              have Hr618 := CHr.trans Hr0 (CHr.ext E617 Hr0.1)
              have n_b617 : Z.heap.size ≤ b617 := Nat.le_trans O0.1 (Nat.le_of_eq g617.symm)
              have z_b617 : h0.size ≤ b617 := Nat.le_trans (Nat.le_refl _) (Nat.le_of_eq g617.symm)
              have s_b617 : Safe Z consts_1 s.vm h617 b617 := Safe.ext E617 Hr0.1 (Safe.new (Nat.le_of_eq g617.symm))
              have F617_coder : Fld Z h617 b617 "java/lang/String" "coder" "B" (.int (0 : Int32)) := D617 (Or.inr (tw hw 32 rfl)) (ty := .byte) (by decide)
              have F617_value : Fld Z h617 b617 "java/lang/String" "value" "[B" .null := D617 (Or.inr (tw hw 34 rfl)) (ty := (.array .byte)) (by decide)
              refine Go.dup (pc' := 166) C X617 at_165 rfl rfl ?_
              refine Go.iload (pc' := 168) C X617 at_166 rfl rfl ?_
              by_cases hc168_619 : d6 = (0 : Int32)
              · refine Go.ifYes (pc' := 177) C X617 at_168 ((if0 _ _).trans (teq (x := d6) (y := (0 : Int32)) hc168_619).1) (by decide) (by decide) ?_
                have O621 : Ext Z.heap h617 := (Ext.trans O0 E617)
                refine Go.callS (y := mN7) (pc' := 180) C X617 (tw hw 73 rfl) (tw hw 74 rfl) (by decide) (rm_ar_leShorter l Z a0 hw  h617 O621 ) (tw hw 75 rfl) (tw hw 6 rfl) e617 (argsL := []) (rest := [(.ref b617), (.ref b617)]) (W := 2) rfl rfl pd_11 rfl (Nat.le_of_eq rfl) rfl (by decide) (by decide) (by decide) (by decide) at_177 rfl ?_
                intro T620 v620 L620 X620 q620
                obtain ⟨a_620, ka_620, rfl, N620q, K620, B620_0, P620_0⟩ := q620
                have N620 := Fr.app N101 N620q
                have Hr622 := CHr.trans Hr618 (CHr.keep K620 all0 Hr618.1)
                have n_a_620 : Z.heap.size ≤ a_620 := Nat.le_trans O621.1 B620_0
                have z_a_620 : h0.size ≤ a_620 := Nat.le_trans (Nat.le_trans (Nat.le_refl _) E617.1) B620_0
                have s_a_620 : Safe Z consts_1 s.vm T620.heap a_620 := Safe.keep K620 all0 Hr618.1 (Safe.new B620_0)
                have hlen : leS.length = 14 := by rfl
                have hAll : ∀ x ∈ leS, 0 ≤ x.toInt ∧ x.toInt ≤ 255 := by decide
                have c624 : Exa Z T620.heap b617 "java/lang/String" := (Exa.keep A617 K620)
                have c625 : Fld Z T620.heap b617 "java/lang/String" "value" "[B" .null := (Fld.keep F617_value K620 nin0)
                have c626 : Fld Z T620.heap b617 "java/lang/String" "coder" "B" (.int (0 : Int32)) := (Fld.keep F617_coder K620 nin0)
                have O627 : Ext Z.heap T620.heap := (Ext.keep O621 K620 all0)
                refine Go.callI (y := mN8) (a := b617) (pc' := 183) C X620 rfl (tw hw 9 rfl) (tw hw 10 rfl) (by decide) (rm_sI1 l Z a0 hw b617 a_620 ka_620 leS cP T620.heap O627 c624 c625 c626 P620_0 SC hAll (by rw [hlen]; decide) (by rw [hlen]; decide) (by rw [hlen]; decide) hP n_b617) (tw hw 11 rfl) (tw hw 3 rfl) rfl (argsL := [(.ref a_620)]) (rest := [(.ref b617)]) (W := 1) rfl rfl pd_12 rfl (Nat.le_of_eq rfl) rfl (by decide) (by decide) (by decide) (by decide) rfl at_180 rfl ?_
                intro T623 v623 L623 X623 q623
                obtain ⟨v_623, kv_623, rfl, N623q, K623, B623_0, P623_0, P623_1, P623_2⟩ := q623
                have N623 := Fr.app N620 N623q
                have sa629 : Safe Z consts_1 s.vm T620.heap b617 := (Safe.keep K620 all0 Hr618.1 s_b617)
                have Hr628 := CHr.trans Hr622 (CHr.keep K623 (allS sa629 all0) Hr622.1)
                have n_v_623 : Z.heap.size ≤ v_623 := Nat.le_trans O627.1 B623_0
                have z_v_623 : h0.size ≤ v_623 := Nat.le_trans (Nat.le_trans (Nat.le_trans (Nat.le_refl _) E617.1) K620.1) B623_0
                have s_v_623 : Safe Z consts_1 s.vm T623.heap v_623 := Safe.keep K623 (allS sa629 all0) Hr622.1 (Safe.new B623_0)
                refine Go.astore (Ls' := #[.val (.int p1), .val (.int p2), .val (.int p3), .val (.int p4), .val (.int p5), .val (.int p6), .val (.int d6), .val (.int (p4 &&& (65535 : Int32))), .val (.int (p1 &&& (7 : Int32))), .val (.ref b617), .unset, .unset]) (pc' := 185) C X623 at_183 rfl rfl rfl ?_
                refine Go.goto (pc' := 266) C X623 at_185 (by decide) (by decide) ?_
                have O631 : Ext Z.heap T623.heap := (Ext.keep O627 K623 (allS n_b617 all0))
                have Si632 : Sin s s T623.heap := Sin.mono Si0 (Nat.le_trans (Nat.le_trans (Nat.le_trans (Nat.le_refl _) E617.1) K620.1) K623.1)
                refine Go.ldcH (pc' := 268) (n := 60) (vs := [(.int (108 : Int32)), (.int (97 : Int32)), (.int (119 : Int32)), (.int (45 : Int32)), (.int (101 : Int32)), (.int (110 : Int32)), (.int (102 : Int32)), (.int (111 : Int32)), (.int (114 : Int32)), (.int (99 : Int32)), (.int (101 : Int32)), (.int (109 : Int32)), (.int (101 : Int32)), (.int (110 : Int32)), (.int (116 : Int32))]) (z := (15 : Int32)) C X623 Si632 (EWc hw) Hr628.1 (tw hw 35 rfl) (wS hw) rfl (by decide) (by decide) (by decide) (by decide) (by decide) (by decide) (by decide) (by decide) at_266 rfl ?_
                intro T630 h630 b630 sC630 v630 k630 C630 X630 e630 Si630 E630 hR630 A630 F630c F630v B630 hne630
                have Hr633 := CHr.trans Hr628 hR630
                have sa634 : Safe Z consts_1 sC630.vm h630 b617 := (CHr.safe hR630 (Nat.lt_of_lt_of_le A617.lt (Nat.le_trans (Nat.le_trans (Nat.le_refl _) K620.1) K623.1)) (Safe.keep K623 (allS sa629 all0) Hr622.1 sa629))
                have hx630_b617 := hne630 b617 sa634
                have ne635 : a_620 ≠ b617 := (Nat.ne_of_gt (Nat.lt_of_lt_of_le A617.lt (Nat.le_trans (Nat.le_refl _) B620_0)))
                have c636 : AL Z h630 a_620 ka_620 .char (ch16 leS) := (AL.ext E630 (AL.keep P620_0 K623 (ninS ne635 nin0)))
                have hx630_a_620 := hne630 a_620 (Safe.al C630.2.1.alike c636 (by decide))
                have sa637 : Safe Z consts_1 sC630.vm h630 v_623 := (CHr.safe hR630 (Nat.lt_of_lt_of_le P623_2.lt (Nat.le_refl _)) s_v_623)
                have hx630_v_623 := hne630 v_623 sa637
                have tx638 : AL Z h630 v630 k630 .byte (by8 leL) := leV ▸ B630
                refine Go.aload (pc' := 270) C630 X630 at_268 rfl rfl rfl ?_
                have c640 : Exa Z h630 b617 "java/lang/String" := (Exa.ext E630 (Exa.keep c624 K623))
                have c641 : Fld Z h630 b617 "java/lang/String" "value" "[B" (.ref v_623) := (Fld.ext E630 P623_0)
                have c642 : Fld Z h630 b617 "java/lang/String" "coder" "B" (.int (0 : Int32)) := (Fld.ext E630 P623_1)
                have c643 : AL Z h630 v_623 kv_623 .byte (by8 leS) := (AL.ext E630 P623_2)
                have O644 : Ext Z.heap h630 := (Ext.trans O631 E630)
                refine Go.callV (y := mN10) (z := mN10) (a := b630) (pc' := 273) C630 X630 (tw hw 38 rfl) (tw hw 39 rfl) (notFace_at C630.2.1 (tw hw 41 rfl)) (tw hw 41 rfl) (tw hw 40 rfl) A630 (by decide) (rm_eqS l Z a0 hw b630 b617 v630 v_623 k630 kv_623 leL leS cP h630 O644 SC A630 F630v F630c tx638 c640 c641 c642 c643 (Ne.symm hx630_b617.1) hP (by decide) (by rw [hlen]; decide)) (tw hw 42 rfl) (tw hw 3 rfl) e630 (argsL := [(.ref b617)]) (rest := []) (W := 0) rfl rfl pd_10 rfl (Nat.le_of_eq rfl) rfl (by decide) (by decide) (by decide) (by decide) at_270 rfl ?_
                intro T639 v639 L639 X639 q639
                obtain ⟨rfl, rfl, e639⟩ := q639
                have N639 := Fr.app N623 (Fr.nil _)
                by_cases hc273_645 : (if by8 leL = by8 leS then (1 : Int32) else 0) = (0 : Int32)
                · refine Go.ifYes (pc' := 284) C630 X639 at_273 ((if0 _ _).trans (teq (x := (if by8 leL = by8 leS then (1 : Int32) else 0)) (y := (0 : Int32)) hc273_645).1) (by decide) (by decide) ?_
                  refine Go.ldcH (pc' := 286) (n := 68) (vs := [(.int (100 : Int32)), (.int (105 : Int32)), (.int (115 : Int32)), (.int (116 : Int32)), (.int (114 : Int32)), (.int (105 : Int32)), (.int (99 : Int32)), (.int (116 : Int32)), (.int (45 : Int32)), (.int (97 : Int32)), (.int (116 : Int32)), (.int (116 : Int32)), (.int (111 : Int32)), (.int (114 : Int32)), (.int (110 : Int32)), (.int (101 : Int32)), (.int (121 : Int32))]) (z := (17 : Int32)) C630 X639 Si630 (EWc hw) Hr633.1 (tw hw 76 rfl) (wS hw) e639 (by decide) (by decide) (by decide) (by decide) (by decide) (by decide) (by decide) (by decide) at_284 rfl ?_
                  intro T646 h646 b646 sC646 v646 k646 C646 X646 e646 Si646 E646 hR646 A646 F646c F646v B646 hne646
                  have Hr647 := CHr.trans Hr633 hR646
                  have sa648 : Safe Z consts_1 sC646.vm h646 b617 := (CHr.safe hR646 (Nat.lt_of_lt_of_le A617.lt (Nat.le_trans (Nat.le_trans (Nat.le_trans (Nat.le_refl _) K620.1) K623.1) E630.1)) sa634)
                  have hx646_b617 := hne646 b617 sa648
                  have c649 : AL Z h646 a_620 ka_620 .char (ch16 leS) := (AL.ext E646 c636)
                  have hx646_a_620 := hne646 a_620 (Safe.al C646.2.1.alike c649 (by decide))
                  have sa650 : Safe Z consts_1 sC646.vm h646 v_623 := (CHr.safe hR646 (Nat.lt_of_lt_of_le P623_2.lt (Nat.le_trans (Nat.le_refl _) E630.1)) sa637)
                  have hx646_v_623 := hne646 v_623 sa650
                  have tx651 : AL Z h646 v646 k646 .byte (by8 daL) := daV ▸ B646
                  refine Go.aload (pc' := 288) C646 X646 at_286 rfl rfl rfl ?_
                  have c653 : Exa Z h646 b617 "java/lang/String" := (Exa.ext E646 c640)
                  have c654 : Fld Z h646 b617 "java/lang/String" "value" "[B" (.ref v_623) := (Fld.ext E646 c641)
                  have c655 : Fld Z h646 b617 "java/lang/String" "coder" "B" (.int (0 : Int32)) := (Fld.ext E646 c642)
                  have c656 : AL Z h646 v_623 kv_623 .byte (by8 leS) := (AL.ext E646 c643)
                  have O657 : Ext Z.heap h646 := (Ext.trans O644 E646)
                  refine Go.callV (y := mN10) (z := mN10) (a := b646) (pc' := 291) C646 X646 (tw hw 38 rfl) (tw hw 39 rfl) (notFace_at C646.2.1 (tw hw 41 rfl)) (tw hw 41 rfl) (tw hw 40 rfl) A646 (by decide) (rm_eqS l Z a0 hw b646 b617 v646 v_623 k646 kv_623 daL leS cP h646 O657 SC A646 F646v F646c tx651 c653 c654 c655 c656 (Ne.symm hx646_b617.1) hP (by decide) (by rw [hlen]; decide)) (tw hw 42 rfl) (tw hw 3 rfl) e646 (argsL := [(.ref b617)]) (rest := []) (W := 0) rfl rfl pd_10 rfl (Nat.le_of_eq rfl) rfl (by decide) (by decide) (by decide) (by decide) at_288 rfl ?_
                  intro T652 v652 L652 X652 q652
                  obtain ⟨rfl, rfl, e652⟩ := q652
                  have N652 := Fr.app N639 (Fr.nil _)
                  by_cases hc291_658 : (if by8 daL = by8 leS then (1 : Int32) else 0) = (0 : Int32)
                  · refine Go.ifYes (pc' := 302) C646 X652 at_291 ((if0 _ _).trans (teq (x := (if by8 daL = by8 leS then (1 : Int32) else 0)) (y := (0 : Int32)) hc291_658).1) (by decide) (by decide) ?_
                    refine Go.aconstNull (pc' := 303) C646 X652 at_302 rfl ?_
                    refine Go.astore (Ls' := #[.val (.int p1), .val (.int p2), .val (.int p3), .val (.int p4), .val (.int p5), .val (.int p6), .val (.int d6), .val (.int (p4 &&& (65535 : Int32))), .val (.int (p1 &&& (7 : Int32))), .val (.ref b617), .val .null, .unset]) (pc' := 305) C646 X652 at_303 rfl rfl rfl ?_
                    refine Go.aload (pc' := 307) C646 X652 at_305 rfl rfl rfl ?_
                    have ne660 : tle ≠ b617 := Nat.ne_of_lt (Nat.lt_of_lt_of_le (Nat.lt_of_lt_of_le le_0.lt O0.1) (Nat.le_trans (Nat.le_refl _) (Nat.le_of_eq g617.symm)))
                    have ne661 : tda ≠ b617 := Nat.ne_of_lt (Nat.lt_of_lt_of_le (Nat.lt_of_lt_of_le da_0.lt O0.1) (Nat.le_trans (Nat.le_refl _) (Nat.le_of_eq g617.symm)))
                    refine Go.callS (y := mN0) (pc' := 310) C646 X652 (tw hw 51 rfl) (tw hw 52 rfl) (by decide) (rm_nmLno l Z a0 hw va vk le0 tle lev lek da0 tda dav dak b617 cP v_623 kv_623 leS h646 O657 SV Ev Av Tle le_0 le_1 le_2 le_3 Tda da_0 da_1 da_2 da_3 c653 c654 c655 c656 SC hP ne660 ne661 (by rw [hlen]; decide) (own_ifz hc273_645) (own_ifz hc291_658)) (tw hw 53 rfl) (tw hw 49 rfl) e652 (argsL := [(.ref b617)]) (rest := []) (W := 0) rfl rfl pd_13 rfl (Nat.le_of_eq rfl) rfl (by decide) (by decide) (by decide) (by decide) at_307 rfl ?_
                    intro T659 v659 L659 X659 q659
                    obtain ⟨rfl, N659q, K659⟩ := q659
                    have N659 := Fr.app N652 N659q
                    have Hr662 := CHr.trans Hr647 (CHr.keep K659 all0 Hr647.1)
                    refine Go.aload (pc' := 312) C646 X659 at_310 rfl rfl rfl ?_
                    refine Go.acmpNo (pc' := 315) C646 X659 at_312 rfl rfl (XT.aa_ne_f rfl) rfl ?_
                    refine Go.iconst (z := (1 : Int32)) (pc' := 316) C646 X659 at_315 rfl rfl ?_
                    refine Go.goto (pc' := 320) C646 X659 at_316 (by decide) (by decide) ?_
                    have K663 : Keep h0 T659.heap [] := (((((((Keep.refl h0 []).ext E617).trans K620 all0).trans K623 (allS (Or.inr z_b617) all0)).ext E630).ext E646).trans K659 all0)
                    have Si664 : Sin s sC646 T659.heap := Sin.mono Si646 (Nat.le_trans (Nat.le_refl _) K659.1)
                    exact Go.retNH C646 X659 Si664 (EWc hw) Hr662 rfl at_320 (by simp) ⟨rfl, N659, K663⟩ (by decide) (by decide)
                  · refine Go.ifNo (pc' := 294) C646 X652 at_291 ((if0 _ _).trans (feq (x := (if by8 daL = by8 leS then (1 : Int32) else 0)) (y := (0 : Int32)) hc291_658).1) rfl ?_
                    refine Go.getS (pc' := 297) (host := "") C646 X652 (Or.inl (tw hw 110 rfl)) Via.refl e652 (Sda.ext O657) at_294 rfl ?_
                    intro T665 X665 e665
                    refine Go.astore (Ls' := #[.val (.int p1), .val (.int p2), .val (.int p3), .val (.int p4), .val (.int p5), .val (.int p6), .val (.int d6), .val (.int (p4 &&& (65535 : Int32))), .val (.int (p1 &&& (7 : Int32))), .val (.ref b617), .val (.ref da0), .unset]) (pc' := 299) C646 X665 at_297 rfl rfl rfl ?_
                    refine Go.goto (pc' := 305) C646 X665 at_299 (by decide) (by decide) ?_
                    refine Go.aload (pc' := 307) C646 X665 at_305 rfl rfl rfl ?_
                    have ne667 : tle ≠ b617 := Nat.ne_of_lt (Nat.lt_of_lt_of_le (Nat.lt_of_lt_of_le le_0.lt O0.1) (Nat.le_trans (Nat.le_refl _) (Nat.le_of_eq g617.symm)))
                    have ne668 : tda ≠ b617 := Nat.ne_of_lt (Nat.lt_of_lt_of_le (Nat.lt_of_lt_of_le da_0.lt O0.1) (Nat.le_trans (Nat.le_refl _) (Nat.le_of_eq g617.symm)))
                    refine Go.callS (y := mN0) (pc' := 310) C646 X665 (tw hw 51 rfl) (tw hw 52 rfl) (by decide) (rm_nmLda l Z a0 hw va vk le0 tle lev lek da0 tda dav dak b617 cP v_623 kv_623 leS h646 O657 SV Ev Av Tle le_0 le_1 le_2 le_3 Tda da_0 da_1 da_2 da_3 c653 c654 c655 c656 SC hP ne667 ne668 (by rw [hlen]; decide) (own_ifz hc273_645) (own_ifn hc291_658)) (tw hw 53 rfl) (tw hw 49 rfl) e665 (argsL := [(.ref b617)]) (rest := []) (W := 0) rfl rfl pd_13 rfl (Nat.le_of_eq rfl) rfl (by decide) (by decide) (by decide) (by decide) at_307 rfl ?_
                    intro T666 v666 L666 X666 q666
                    obtain ⟨rfl, N666q, K666⟩ := q666
                    have N666 := Fr.app N652 N666q
                    have Hr669 := CHr.trans Hr647 (CHr.keep K666 all0 Hr647.1)
                    refine Go.aload (pc' := 312) C646 X666 at_310 rfl rfl rfl ?_
                    refine Go.acmpNo (pc' := 315) C646 X666 at_312 rfl rfl (XT.aa_ne_f rfl) rfl ?_
                    refine Go.iconst (z := (1 : Int32)) (pc' := 316) C646 X666 at_315 rfl rfl ?_
                    refine Go.goto (pc' := 320) C646 X666 at_316 (by decide) (by decide) ?_
                    have K670 : Keep h0 T666.heap [] := (((((((Keep.refl h0 []).ext E617).trans K620 all0).trans K623 (allS (Or.inr z_b617) all0)).ext E630).ext E646).trans K666 all0)
                    have Si671 : Sin s sC646 T666.heap := Sin.mono Si646 (Nat.le_trans (Nat.le_refl _) K666.1)
                    exact Go.retNH C646 X666 Si671 (EWc hw) Hr669 rfl at_320 (by simp) ⟨rfl, N666, K670⟩ (by decide) (by decide)
                · refine Go.ifNo (pc' := 276) C630 X639 at_273 ((if0 _ _).trans (feq (x := (if by8 leL = by8 leS then (1 : Int32) else 0)) (y := (0 : Int32)) hc273_645).1) rfl ?_
                  refine Go.getS (pc' := 279) (host := "") C630 X639 (Or.inl (tw hw 48 rfl)) Via.refl e639 (Sle.ext O644) at_276 rfl ?_
                  intro T672 X672 e672
                  refine Go.astore (Ls' := #[.val (.int p1), .val (.int p2), .val (.int p3), .val (.int p4), .val (.int p5), .val (.int p6), .val (.int d6), .val (.int (p4 &&& (65535 : Int32))), .val (.int (p1 &&& (7 : Int32))), .val (.ref b617), .val (.ref le0), .unset]) (pc' := 281) C630 X672 at_279 rfl rfl rfl ?_
                  refine Go.goto (pc' := 305) C630 X672 at_281 (by decide) (by decide) ?_
                  refine Go.aload (pc' := 307) C630 X672 at_305 rfl rfl rfl ?_
                  have ne674 : tle ≠ b617 := Nat.ne_of_lt (Nat.lt_of_lt_of_le (Nat.lt_of_lt_of_le le_0.lt O0.1) (Nat.le_trans (Nat.le_refl _) (Nat.le_of_eq g617.symm)))
                  have ne675 : tda ≠ b617 := Nat.ne_of_lt (Nat.lt_of_lt_of_le (Nat.lt_of_lt_of_le da_0.lt O0.1) (Nat.le_trans (Nat.le_refl _) (Nat.le_of_eq g617.symm)))
                  refine Go.callS (y := mN0) (pc' := 310) C630 X672 (tw hw 51 rfl) (tw hw 52 rfl) (by decide) (rm_nmLle l Z a0 hw va vk le0 tle lev lek da0 tda dav dak b617 cP v_623 kv_623 leS h630 O644 SV Ev Av Tle le_0 le_1 le_2 le_3 Tda da_0 da_1 da_2 da_3 c640 c641 c642 c643 SC hP ne674 ne675 (by rw [hlen]; decide) (own_ifn hc273_645)) (tw hw 53 rfl) (tw hw 49 rfl) e672 (argsL := [(.ref b617)]) (rest := []) (W := 0) rfl rfl pd_13 rfl (Nat.le_of_eq rfl) rfl (by decide) (by decide) (by decide) (by decide) at_307 rfl ?_
                  intro T673 v673 L673 X673 q673
                  obtain ⟨rfl, N673q, K673⟩ := q673
                  have N673 := Fr.app N639 N673q
                  have Hr676 := CHr.trans Hr633 (CHr.keep K673 all0 Hr633.1)
                  refine Go.aload (pc' := 312) C630 X673 at_310 rfl rfl rfl ?_
                  refine Go.acmpNo (pc' := 315) C630 X673 at_312 rfl rfl (XT.aa_ne_f rfl) rfl ?_
                  refine Go.iconst (z := (1 : Int32)) (pc' := 316) C630 X673 at_315 rfl rfl ?_
                  refine Go.goto (pc' := 320) C630 X673 at_316 (by decide) (by decide) ?_
                  have K677 : Keep h0 T673.heap [] := ((((((Keep.refl h0 []).ext E617).trans K620 all0).trans K623 (allS (Or.inr z_b617) all0)).ext E630).trans K673 all0)
                  have Si678 : Sin s sC630 T673.heap := Sin.mono Si630 (Nat.le_trans (Nat.le_refl _) K673.1)
                  exact Go.retNH C630 X673 Si678 (EWc hw) Hr676 rfl at_320 (by simp) ⟨rfl, N673, K677⟩ (by decide) (by decide)
              · refine Go.ifNo (pc' := 171) C X617 at_168 ((if0 _ _).trans (feq (x := d6) (y := (0 : Int32)) hc168_619).1) rfl ?_
                have O680 : Ext Z.heap h617 := (Ext.trans O0 E617)
                refine Go.callS (y := mN4) (pc' := 174) C X617 (tw hw 77 rfl) (tw hw 78 rfl) (by decide) (rm_ar_daShorter l Z a0 hw  h617 O680 ) (tw hw 79 rfl) (tw hw 6 rfl) e617 (argsL := []) (rest := [(.ref b617), (.ref b617)]) (W := 2) rfl rfl pd_11 rfl (Nat.le_of_eq rfl) rfl (by decide) (by decide) (by decide) (by decide) at_171 rfl ?_
                intro T679 v679 L679 X679 q679
                obtain ⟨a_679, ka_679, rfl, N679q, K679, B679_0, P679_0⟩ := q679
                have N679 := Fr.app N101 N679q
                have Hr681 := CHr.trans Hr618 (CHr.keep K679 all0 Hr618.1)
                have n_a_679 : Z.heap.size ≤ a_679 := Nat.le_trans O680.1 B679_0
                have z_a_679 : h0.size ≤ a_679 := Nat.le_trans (Nat.le_trans (Nat.le_refl _) E617.1) B679_0
                have s_a_679 : Safe Z consts_1 s.vm T679.heap a_679 := Safe.keep K679 all0 Hr618.1 (Safe.new B679_0)
                refine Go.goto (pc' := 180) C X679 at_174 (by decide) (by decide) ?_
                have hlen : daS.length = 16 := by rfl
                have hAll : ∀ x ∈ daS, 0 ≤ x.toInt ∧ x.toInt ≤ 255 := by decide
                have c683 : Exa Z T679.heap b617 "java/lang/String" := (Exa.keep A617 K679)
                have c684 : Fld Z T679.heap b617 "java/lang/String" "value" "[B" .null := (Fld.keep F617_value K679 nin0)
                have c685 : Fld Z T679.heap b617 "java/lang/String" "coder" "B" (.int (0 : Int32)) := (Fld.keep F617_coder K679 nin0)
                have O686 : Ext Z.heap T679.heap := (Ext.keep O680 K679 all0)
                refine Go.callI (y := mN8) (a := b617) (pc' := 183) C X679 rfl (tw hw 9 rfl) (tw hw 10 rfl) (by decide) (rm_sI1 l Z a0 hw b617 a_679 ka_679 daS cP T679.heap O686 c683 c684 c685 P679_0 SC hAll (by rw [hlen]; decide) (by rw [hlen]; decide) (by rw [hlen]; decide) hP n_b617) (tw hw 11 rfl) (tw hw 3 rfl) rfl (argsL := [(.ref a_679)]) (rest := [(.ref b617)]) (W := 1) rfl rfl pd_12 rfl (Nat.le_of_eq rfl) rfl (by decide) (by decide) (by decide) (by decide) rfl at_180 rfl ?_
                intro T682 v682 L682 X682 q682
                obtain ⟨v_682, kv_682, rfl, N682q, K682, B682_0, P682_0, P682_1, P682_2⟩ := q682
                have N682 := Fr.app N679 N682q
                have sa688 : Safe Z consts_1 s.vm T679.heap b617 := (Safe.keep K679 all0 Hr618.1 s_b617)
                have Hr687 := CHr.trans Hr681 (CHr.keep K682 (allS sa688 all0) Hr681.1)
                have n_v_682 : Z.heap.size ≤ v_682 := Nat.le_trans O686.1 B682_0
                have z_v_682 : h0.size ≤ v_682 := Nat.le_trans (Nat.le_trans (Nat.le_trans (Nat.le_refl _) E617.1) K679.1) B682_0
                have s_v_682 : Safe Z consts_1 s.vm T682.heap v_682 := Safe.keep K682 (allS sa688 all0) Hr681.1 (Safe.new B682_0)
                refine Go.astore (Ls' := #[.val (.int p1), .val (.int p2), .val (.int p3), .val (.int p4), .val (.int p5), .val (.int p6), .val (.int d6), .val (.int (p4 &&& (65535 : Int32))), .val (.int (p1 &&& (7 : Int32))), .val (.ref b617), .unset, .unset]) (pc' := 185) C X682 at_183 rfl rfl rfl ?_
                refine Go.goto (pc' := 266) C X682 at_185 (by decide) (by decide) ?_
                have O690 : Ext Z.heap T682.heap := (Ext.keep O686 K682 (allS n_b617 all0))
                have Si691 : Sin s s T682.heap := Sin.mono Si0 (Nat.le_trans (Nat.le_trans (Nat.le_trans (Nat.le_refl _) E617.1) K679.1) K682.1)
                refine Go.ldcH (pc' := 268) (n := 60) (vs := [(.int (108 : Int32)), (.int (97 : Int32)), (.int (119 : Int32)), (.int (45 : Int32)), (.int (101 : Int32)), (.int (110 : Int32)), (.int (102 : Int32)), (.int (111 : Int32)), (.int (114 : Int32)), (.int (99 : Int32)), (.int (101 : Int32)), (.int (109 : Int32)), (.int (101 : Int32)), (.int (110 : Int32)), (.int (116 : Int32))]) (z := (15 : Int32)) C X682 Si691 (EWc hw) Hr687.1 (tw hw 35 rfl) (wS hw) rfl (by decide) (by decide) (by decide) (by decide) (by decide) (by decide) (by decide) (by decide) at_266 rfl ?_
                intro T689 h689 b689 sC689 v689 k689 C689 X689 e689 Si689 E689 hR689 A689 F689c F689v B689 hne689
                have Hr692 := CHr.trans Hr687 hR689
                have sa693 : Safe Z consts_1 sC689.vm h689 b617 := (CHr.safe hR689 (Nat.lt_of_lt_of_le A617.lt (Nat.le_trans (Nat.le_trans (Nat.le_refl _) K679.1) K682.1)) (Safe.keep K682 (allS sa688 all0) Hr681.1 sa688))
                have hx689_b617 := hne689 b617 sa693
                have ne694 : a_679 ≠ b617 := (Nat.ne_of_gt (Nat.lt_of_lt_of_le A617.lt (Nat.le_trans (Nat.le_refl _) B679_0)))
                have c695 : AL Z h689 a_679 ka_679 .char (ch16 daS) := (AL.ext E689 (AL.keep P679_0 K682 (ninS ne694 nin0)))
                have hx689_a_679 := hne689 a_679 (Safe.al C689.2.1.alike c695 (by decide))
                have sa696 : Safe Z consts_1 sC689.vm h689 v_682 := (CHr.safe hR689 (Nat.lt_of_lt_of_le P682_2.lt (Nat.le_refl _)) s_v_682)
                have hx689_v_682 := hne689 v_682 sa696
                have tx697 : AL Z h689 v689 k689 .byte (by8 leL) := leV ▸ B689
                refine Go.aload (pc' := 270) C689 X689 at_268 rfl rfl rfl ?_
                have c699 : Exa Z h689 b617 "java/lang/String" := (Exa.ext E689 (Exa.keep c683 K682))
                have c700 : Fld Z h689 b617 "java/lang/String" "value" "[B" (.ref v_682) := (Fld.ext E689 P682_0)
                have c701 : Fld Z h689 b617 "java/lang/String" "coder" "B" (.int (0 : Int32)) := (Fld.ext E689 P682_1)
                have c702 : AL Z h689 v_682 kv_682 .byte (by8 daS) := (AL.ext E689 P682_2)
                have O703 : Ext Z.heap h689 := (Ext.trans O690 E689)
                refine Go.callV (y := mN10) (z := mN10) (a := b689) (pc' := 273) C689 X689 (tw hw 38 rfl) (tw hw 39 rfl) (notFace_at C689.2.1 (tw hw 41 rfl)) (tw hw 41 rfl) (tw hw 40 rfl) A689 (by decide) (rm_eqS l Z a0 hw b689 b617 v689 v_682 k689 kv_682 leL daS cP h689 O703 SC A689 F689v F689c tx697 c699 c700 c701 c702 (Ne.symm hx689_b617.1) hP (by decide) (by rw [hlen]; decide)) (tw hw 42 rfl) (tw hw 3 rfl) e689 (argsL := [(.ref b617)]) (rest := []) (W := 0) rfl rfl pd_10 rfl (Nat.le_of_eq rfl) rfl (by decide) (by decide) (by decide) (by decide) at_270 rfl ?_
                intro T698 v698 L698 X698 q698
                obtain ⟨rfl, rfl, e698⟩ := q698
                have N698 := Fr.app N682 (Fr.nil _)
                by_cases hc273_704 : (if by8 leL = by8 daS then (1 : Int32) else 0) = (0 : Int32)
                · refine Go.ifYes (pc' := 284) C689 X698 at_273 ((if0 _ _).trans (teq (x := (if by8 leL = by8 daS then (1 : Int32) else 0)) (y := (0 : Int32)) hc273_704).1) (by decide) (by decide) ?_
                  refine Go.ldcH (pc' := 286) (n := 68) (vs := [(.int (100 : Int32)), (.int (105 : Int32)), (.int (115 : Int32)), (.int (116 : Int32)), (.int (114 : Int32)), (.int (105 : Int32)), (.int (99 : Int32)), (.int (116 : Int32)), (.int (45 : Int32)), (.int (97 : Int32)), (.int (116 : Int32)), (.int (116 : Int32)), (.int (111 : Int32)), (.int (114 : Int32)), (.int (110 : Int32)), (.int (101 : Int32)), (.int (121 : Int32))]) (z := (17 : Int32)) C689 X698 Si689 (EWc hw) Hr692.1 (tw hw 76 rfl) (wS hw) e698 (by decide) (by decide) (by decide) (by decide) (by decide) (by decide) (by decide) (by decide) at_284 rfl ?_
                  intro T705 h705 b705 sC705 v705 k705 C705 X705 e705 Si705 E705 hR705 A705 F705c F705v B705 hne705
                  have Hr706 := CHr.trans Hr692 hR705
                  have sa707 : Safe Z consts_1 sC705.vm h705 b617 := (CHr.safe hR705 (Nat.lt_of_lt_of_le A617.lt (Nat.le_trans (Nat.le_trans (Nat.le_trans (Nat.le_refl _) K679.1) K682.1) E689.1)) sa693)
                  have hx705_b617 := hne705 b617 sa707
                  have c708 : AL Z h705 a_679 ka_679 .char (ch16 daS) := (AL.ext E705 c695)
                  have hx705_a_679 := hne705 a_679 (Safe.al C705.2.1.alike c708 (by decide))
                  have sa709 : Safe Z consts_1 sC705.vm h705 v_682 := (CHr.safe hR705 (Nat.lt_of_lt_of_le P682_2.lt (Nat.le_trans (Nat.le_refl _) E689.1)) sa696)
                  have hx705_v_682 := hne705 v_682 sa709
                  have tx710 : AL Z h705 v705 k705 .byte (by8 daL) := daV ▸ B705
                  refine Go.aload (pc' := 288) C705 X705 at_286 rfl rfl rfl ?_
                  have c712 : Exa Z h705 b617 "java/lang/String" := (Exa.ext E705 c699)
                  have c713 : Fld Z h705 b617 "java/lang/String" "value" "[B" (.ref v_682) := (Fld.ext E705 c700)
                  have c714 : Fld Z h705 b617 "java/lang/String" "coder" "B" (.int (0 : Int32)) := (Fld.ext E705 c701)
                  have c715 : AL Z h705 v_682 kv_682 .byte (by8 daS) := (AL.ext E705 c702)
                  have O716 : Ext Z.heap h705 := (Ext.trans O703 E705)
                  refine Go.callV (y := mN10) (z := mN10) (a := b705) (pc' := 291) C705 X705 (tw hw 38 rfl) (tw hw 39 rfl) (notFace_at C705.2.1 (tw hw 41 rfl)) (tw hw 41 rfl) (tw hw 40 rfl) A705 (by decide) (rm_eqS l Z a0 hw b705 b617 v705 v_682 k705 kv_682 daL daS cP h705 O716 SC A705 F705v F705c tx710 c712 c713 c714 c715 (Ne.symm hx705_b617.1) hP (by decide) (by rw [hlen]; decide)) (tw hw 42 rfl) (tw hw 3 rfl) e705 (argsL := [(.ref b617)]) (rest := []) (W := 0) rfl rfl pd_10 rfl (Nat.le_of_eq rfl) rfl (by decide) (by decide) (by decide) (by decide) at_288 rfl ?_
                  intro T711 v711 L711 X711 q711
                  obtain ⟨rfl, rfl, e711⟩ := q711
                  have N711 := Fr.app N698 (Fr.nil _)
                  by_cases hc291_717 : (if by8 daL = by8 daS then (1 : Int32) else 0) = (0 : Int32)
                  · refine Go.ifYes (pc' := 302) C705 X711 at_291 ((if0 _ _).trans (teq (x := (if by8 daL = by8 daS then (1 : Int32) else 0)) (y := (0 : Int32)) hc291_717).1) (by decide) (by decide) ?_
                    refine Go.aconstNull (pc' := 303) C705 X711 at_302 rfl ?_
                    refine Go.astore (Ls' := #[.val (.int p1), .val (.int p2), .val (.int p3), .val (.int p4), .val (.int p5), .val (.int p6), .val (.int d6), .val (.int (p4 &&& (65535 : Int32))), .val (.int (p1 &&& (7 : Int32))), .val (.ref b617), .val .null, .unset]) (pc' := 305) C705 X711 at_303 rfl rfl rfl ?_
                    refine Go.aload (pc' := 307) C705 X711 at_305 rfl rfl rfl ?_
                    have ne719 : tle ≠ b617 := Nat.ne_of_lt (Nat.lt_of_lt_of_le (Nat.lt_of_lt_of_le le_0.lt O0.1) (Nat.le_trans (Nat.le_refl _) (Nat.le_of_eq g617.symm)))
                    have ne720 : tda ≠ b617 := Nat.ne_of_lt (Nat.lt_of_lt_of_le (Nat.lt_of_lt_of_le da_0.lt O0.1) (Nat.le_trans (Nat.le_refl _) (Nat.le_of_eq g617.symm)))
                    refine Go.callS (y := mN0) (pc' := 310) C705 X711 (tw hw 51 rfl) (tw hw 52 rfl) (by decide) (rm_nmLno l Z a0 hw va vk le0 tle lev lek da0 tda dav dak b617 cP v_682 kv_682 daS h705 O716 SV Ev Av Tle le_0 le_1 le_2 le_3 Tda da_0 da_1 da_2 da_3 c712 c713 c714 c715 SC hP ne719 ne720 (by rw [hlen]; decide) (own_ifz hc273_704) (own_ifz hc291_717)) (tw hw 53 rfl) (tw hw 49 rfl) e711 (argsL := [(.ref b617)]) (rest := []) (W := 0) rfl rfl pd_13 rfl (Nat.le_of_eq rfl) rfl (by decide) (by decide) (by decide) (by decide) at_307 rfl ?_
                    intro T718 v718 L718 X718 q718
                    obtain ⟨rfl, N718q, K718⟩ := q718
                    have N718 := Fr.app N711 N718q
                    have Hr721 := CHr.trans Hr706 (CHr.keep K718 all0 Hr706.1)
                    refine Go.aload (pc' := 312) C705 X718 at_310 rfl rfl rfl ?_
                    refine Go.acmpNo (pc' := 315) C705 X718 at_312 rfl rfl (XT.aa_ne_f rfl) rfl ?_
                    refine Go.iconst (z := (1 : Int32)) (pc' := 316) C705 X718 at_315 rfl rfl ?_
                    refine Go.goto (pc' := 320) C705 X718 at_316 (by decide) (by decide) ?_
                    have K722 : Keep h0 T718.heap [] := (((((((Keep.refl h0 []).ext E617).trans K679 all0).trans K682 (allS (Or.inr z_b617) all0)).ext E689).ext E705).trans K718 all0)
                    have Si723 : Sin s sC705 T718.heap := Sin.mono Si705 (Nat.le_trans (Nat.le_refl _) K718.1)
                    exact Go.retNH C705 X718 Si723 (EWc hw) Hr721 rfl at_320 (by simp) ⟨rfl, N718, K722⟩ (by decide) (by decide)
                  · refine Go.ifNo (pc' := 294) C705 X711 at_291 ((if0 _ _).trans (feq (x := (if by8 daL = by8 daS then (1 : Int32) else 0)) (y := (0 : Int32)) hc291_717).1) rfl ?_
                    refine Go.getS (pc' := 297) (host := "") C705 X711 (Or.inl (tw hw 110 rfl)) Via.refl e711 (Sda.ext O716) at_294 rfl ?_
                    intro T724 X724 e724
                    refine Go.astore (Ls' := #[.val (.int p1), .val (.int p2), .val (.int p3), .val (.int p4), .val (.int p5), .val (.int p6), .val (.int d6), .val (.int (p4 &&& (65535 : Int32))), .val (.int (p1 &&& (7 : Int32))), .val (.ref b617), .val (.ref da0), .unset]) (pc' := 299) C705 X724 at_297 rfl rfl rfl ?_
                    refine Go.goto (pc' := 305) C705 X724 at_299 (by decide) (by decide) ?_
                    refine Go.aload (pc' := 307) C705 X724 at_305 rfl rfl rfl ?_
                    have ne726 : tle ≠ b617 := Nat.ne_of_lt (Nat.lt_of_lt_of_le (Nat.lt_of_lt_of_le le_0.lt O0.1) (Nat.le_trans (Nat.le_refl _) (Nat.le_of_eq g617.symm)))
                    have ne727 : tda ≠ b617 := Nat.ne_of_lt (Nat.lt_of_lt_of_le (Nat.lt_of_lt_of_le da_0.lt O0.1) (Nat.le_trans (Nat.le_refl _) (Nat.le_of_eq g617.symm)))
                    refine Go.callS (y := mN0) (pc' := 310) C705 X724 (tw hw 51 rfl) (tw hw 52 rfl) (by decide) (rm_nmLda l Z a0 hw va vk le0 tle lev lek da0 tda dav dak b617 cP v_682 kv_682 daS h705 O716 SV Ev Av Tle le_0 le_1 le_2 le_3 Tda da_0 da_1 da_2 da_3 c712 c713 c714 c715 SC hP ne726 ne727 (by rw [hlen]; decide) (own_ifz hc273_704) (own_ifn hc291_717)) (tw hw 53 rfl) (tw hw 49 rfl) e724 (argsL := [(.ref b617)]) (rest := []) (W := 0) rfl rfl pd_13 rfl (Nat.le_of_eq rfl) rfl (by decide) (by decide) (by decide) (by decide) at_307 rfl ?_
                    intro T725 v725 L725 X725 q725
                    obtain ⟨rfl, N725q, K725⟩ := q725
                    have N725 := Fr.app N711 N725q
                    have Hr728 := CHr.trans Hr706 (CHr.keep K725 all0 Hr706.1)
                    refine Go.aload (pc' := 312) C705 X725 at_310 rfl rfl rfl ?_
                    refine Go.acmpNo (pc' := 315) C705 X725 at_312 rfl rfl (XT.aa_ne_f rfl) rfl ?_
                    refine Go.iconst (z := (1 : Int32)) (pc' := 316) C705 X725 at_315 rfl rfl ?_
                    refine Go.goto (pc' := 320) C705 X725 at_316 (by decide) (by decide) ?_
                    have K729 : Keep h0 T725.heap [] := (((((((Keep.refl h0 []).ext E617).trans K679 all0).trans K682 (allS (Or.inr z_b617) all0)).ext E689).ext E705).trans K725 all0)
                    have Si730 : Sin s sC705 T725.heap := Sin.mono Si705 (Nat.le_trans (Nat.le_refl _) K725.1)
                    exact Go.retNH C705 X725 Si730 (EWc hw) Hr728 rfl at_320 (by simp) ⟨rfl, N725, K729⟩ (by decide) (by decide)
                · refine Go.ifNo (pc' := 276) C689 X698 at_273 ((if0 _ _).trans (feq (x := (if by8 leL = by8 daS then (1 : Int32) else 0)) (y := (0 : Int32)) hc273_704).1) rfl ?_
                  refine Go.getS (pc' := 279) (host := "") C689 X698 (Or.inl (tw hw 48 rfl)) Via.refl e698 (Sle.ext O703) at_276 rfl ?_
                  intro T731 X731 e731
                  refine Go.astore (Ls' := #[.val (.int p1), .val (.int p2), .val (.int p3), .val (.int p4), .val (.int p5), .val (.int p6), .val (.int d6), .val (.int (p4 &&& (65535 : Int32))), .val (.int (p1 &&& (7 : Int32))), .val (.ref b617), .val (.ref le0), .unset]) (pc' := 281) C689 X731 at_279 rfl rfl rfl ?_
                  refine Go.goto (pc' := 305) C689 X731 at_281 (by decide) (by decide) ?_
                  refine Go.aload (pc' := 307) C689 X731 at_305 rfl rfl rfl ?_
                  have ne733 : tle ≠ b617 := Nat.ne_of_lt (Nat.lt_of_lt_of_le (Nat.lt_of_lt_of_le le_0.lt O0.1) (Nat.le_trans (Nat.le_refl _) (Nat.le_of_eq g617.symm)))
                  have ne734 : tda ≠ b617 := Nat.ne_of_lt (Nat.lt_of_lt_of_le (Nat.lt_of_lt_of_le da_0.lt O0.1) (Nat.le_trans (Nat.le_refl _) (Nat.le_of_eq g617.symm)))
                  refine Go.callS (y := mN0) (pc' := 310) C689 X731 (tw hw 51 rfl) (tw hw 52 rfl) (by decide) (rm_nmLle l Z a0 hw va vk le0 tle lev lek da0 tda dav dak b617 cP v_682 kv_682 daS h689 O703 SV Ev Av Tle le_0 le_1 le_2 le_3 Tda da_0 da_1 da_2 da_3 c699 c700 c701 c702 SC hP ne733 ne734 (by rw [hlen]; decide) (own_ifn hc273_704)) (tw hw 53 rfl) (tw hw 49 rfl) e731 (argsL := [(.ref b617)]) (rest := []) (W := 0) rfl rfl pd_13 rfl (Nat.le_of_eq rfl) rfl (by decide) (by decide) (by decide) (by decide) at_307 rfl ?_
                  intro T732 v732 L732 X732 q732
                  obtain ⟨rfl, N732q, K732⟩ := q732
                  have N732 := Fr.app N698 N732q
                  have Hr735 := CHr.trans Hr692 (CHr.keep K732 all0 Hr692.1)
                  refine Go.aload (pc' := 312) C689 X732 at_310 rfl rfl rfl ?_
                  refine Go.acmpNo (pc' := 315) C689 X732 at_312 rfl rfl (XT.aa_ne_f rfl) rfl ?_
                  refine Go.iconst (z := (1 : Int32)) (pc' := 316) C689 X732 at_315 rfl rfl ?_
                  refine Go.goto (pc' := 320) C689 X732 at_316 (by decide) (by decide) ?_
                  have K736 : Keep h0 T732.heap [] := ((((((Keep.refl h0 []).ext E617).trans K679 all0).trans K682 (allS (Or.inr z_b617) all0)).ext E689).trans K732 all0)
                  have Si737 : Sin s sC689 T732.heap := Sin.mono Si689 (Nat.le_trans (Nat.le_refl _) K732.1)
                  exact Go.retNH C689 X732 Si737 (EWc hw) Hr735 rfl at_320 (by simp) ⟨rfl, N732, K736⟩ (by decide) (by decide)
            · refine Go.icmpYes (pc' := 188) C X101 at_159 (feq (x := (p1 &&& (7 : Int32))) (y := (4 : Int32)) hc159_616).2 (by decide) (by decide) ?_
              refine Go.iload (pc' := 190) C X101 at_188 rfl rfl ?_
              refine Go.bipush (z := (7 : Int32)) (pc' := 192) C X101 at_190 rfl rfl ?_
              by_cases hc192_738 : (p1 &&& (7 : Int32)) = (7 : Int32)
              · refine Go.icmpNo (pc' := 195) C X101 at_192 (teq (x := (p1 &&& (7 : Int32))) (y := (7 : Int32)) hc192_738).2 rfl ?_
                refine Go.aconstNull (pc' := 196) C X101 at_195 rfl ?_
                refine Go.astore (Ls' := #[.val (.int p1), .val (.int p2), .val (.int p3), .val (.int p4), .val (.int p5), .val (.int p6), .val (.int d6), .val (.int (p4 &&& (65535 : Int32))), .val (.int (p1 &&& (7 : Int32))), .val .null, .unset, .unset]) (pc' := 198) C X101 at_196 rfl rfl rfl ?_
                refine Go.goto (pc' := 266) C X101 at_198 (by decide) (by decide) ?_
                refine Go.ldcH (pc' := 268) (n := 60) (vs := [(.int (108 : Int32)), (.int (97 : Int32)), (.int (119 : Int32)), (.int (45 : Int32)), (.int (101 : Int32)), (.int (110 : Int32)), (.int (102 : Int32)), (.int (111 : Int32)), (.int (114 : Int32)), (.int (99 : Int32)), (.int (101 : Int32)), (.int (109 : Int32)), (.int (101 : Int32)), (.int (110 : Int32)), (.int (116 : Int32))]) (z := (15 : Int32)) C X101 Si0 (EWc hw) Hr0.1 (tw hw 35 rfl) (wS hw) e101 (by decide) (by decide) (by decide) (by decide) (by decide) (by decide) (by decide) (by decide) at_266 rfl ?_
                intro T739 h739 b739 sC739 v739 k739 C739 X739 e739 Si739 E739 hR739 A739 F739c F739v B739 hne739
                have Hr740 := CHr.trans Hr0 hR739
                have tx741 : AL Z h739 v739 k739 .byte (by8 leL) := leV ▸ B739
                refine Go.aload (pc' := 270) C739 X739 at_268 rfl rfl rfl ?_
                have O743 : Ext Z.heap h739 := (Ext.trans O0 E739)
                refine Go.callV (y := mN10) (z := mN10) (a := b739) (pc' := 273) C739 X739 (tw hw 38 rfl) (tw hw 39 rfl) (notFace_at C739.2.1 (tw hw 41 rfl)) (tw hw 41 rfl) (tw hw 40 rfl) A739 (by decide) (rm_eqNull l Z a0 hw b739 h739 O743 ) (tw hw 42 rfl) (tw hw 3 rfl) e739 (argsL := [.null]) (rest := []) (W := 0) rfl rfl pd_10 rfl (Nat.le_of_eq rfl) rfl (by decide) (by decide) (by decide) (by decide) at_270 rfl ?_
                intro T742 v742 L742 X742 q742
                obtain ⟨rfl, rfl, e742⟩ := q742
                have N742 := Fr.app N101 (Fr.nil _)
                refine Go.ifYes (pc' := 284) C739 X742 at_273 ((if0 _ _).trans (teq (x := (0 : Int32)) (y := (0 : Int32)) (by decide)).1) (by decide) (by decide) ?_
                refine Go.ldcH (pc' := 286) (n := 68) (vs := [(.int (100 : Int32)), (.int (105 : Int32)), (.int (115 : Int32)), (.int (116 : Int32)), (.int (114 : Int32)), (.int (105 : Int32)), (.int (99 : Int32)), (.int (116 : Int32)), (.int (45 : Int32)), (.int (97 : Int32)), (.int (116 : Int32)), (.int (116 : Int32)), (.int (111 : Int32)), (.int (114 : Int32)), (.int (110 : Int32)), (.int (101 : Int32)), (.int (121 : Int32))]) (z := (17 : Int32)) C739 X742 Si739 (EWc hw) Hr740.1 (tw hw 76 rfl) (wS hw) e742 (by decide) (by decide) (by decide) (by decide) (by decide) (by decide) (by decide) (by decide) at_284 rfl ?_
                intro T745 h745 b745 sC745 v745 k745 C745 X745 e745 Si745 E745 hR745 A745 F745c F745v B745 hne745
                have Hr746 := CHr.trans Hr740 hR745
                have tx747 : AL Z h745 v745 k745 .byte (by8 daL) := daV ▸ B745
                refine Go.aload (pc' := 288) C745 X745 at_286 rfl rfl rfl ?_
                have O749 : Ext Z.heap h745 := (Ext.trans O743 E745)
                refine Go.callV (y := mN10) (z := mN10) (a := b745) (pc' := 291) C745 X745 (tw hw 38 rfl) (tw hw 39 rfl) (notFace_at C745.2.1 (tw hw 41 rfl)) (tw hw 41 rfl) (tw hw 40 rfl) A745 (by decide) (rm_eqNull l Z a0 hw b745 h745 O749 ) (tw hw 42 rfl) (tw hw 3 rfl) e745 (argsL := [.null]) (rest := []) (W := 0) rfl rfl pd_10 rfl (Nat.le_of_eq rfl) rfl (by decide) (by decide) (by decide) (by decide) at_288 rfl ?_
                intro T748 v748 L748 X748 q748
                obtain ⟨rfl, rfl, e748⟩ := q748
                have N748 := Fr.app N742 (Fr.nil _)
                refine Go.ifYes (pc' := 302) C745 X748 at_291 ((if0 _ _).trans (teq (x := (0 : Int32)) (y := (0 : Int32)) (by decide)).1) (by decide) (by decide) ?_
                refine Go.aconstNull (pc' := 303) C745 X748 at_302 rfl ?_
                refine Go.astore (Ls' := #[.val (.int p1), .val (.int p2), .val (.int p3), .val (.int p4), .val (.int p5), .val (.int p6), .val (.int d6), .val (.int (p4 &&& (65535 : Int32))), .val (.int (p1 &&& (7 : Int32))), .val .null, .val .null, .unset]) (pc' := 305) C745 X748 at_303 rfl rfl rfl ?_
                refine Go.aload (pc' := 307) C745 X748 at_305 rfl rfl rfl ?_
                refine Go.callS (y := mN0) (pc' := 310) C745 X748 (tw hw 51 rfl) (tw hw 52 rfl) (by decide) (rm_nmNno l Z a0 hw va vk le0 tle lev lek da0 tda dav dak h745 O749 SV Ev Av Tle le_0 le_1 le_2 le_3 Tda da_0 da_1 da_2 da_3) (tw hw 53 rfl) (tw hw 49 rfl) e748 (argsL := [.null]) (rest := []) (W := 0) rfl rfl pd_13 rfl (Nat.le_of_eq rfl) rfl (by decide) (by decide) (by decide) (by decide) at_307 rfl ?_
                intro T751 v751 L751 X751 q751
                obtain ⟨rfl, N751q, K751⟩ := q751
                have N751 := Fr.app N748 N751q
                have Hr752 := CHr.trans Hr746 (CHr.keep K751 all0 Hr746.1)
                refine Go.aload (pc' := 312) C745 X751 at_310 rfl rfl rfl ?_
                refine Go.acmpNo (pc' := 315) C745 X751 at_312 rfl rfl (XT.aa_ne_f rfl) rfl ?_
                refine Go.iconst (z := (1 : Int32)) (pc' := 316) C745 X751 at_315 rfl rfl ?_
                refine Go.goto (pc' := 320) C745 X751 at_316 (by decide) (by decide) ?_
                have K753 : Keep h0 T751.heap [] := ((((Keep.refl h0 []).ext E739).ext E745).trans K751 all0)
                have Si754 : Sin s sC745 T751.heap := Sin.mono Si745 (Nat.le_trans (Nat.le_refl _) K751.1)
                exact Go.retNH C745 X751 Si754 (EWc hw) Hr752 rfl at_320 (by simp) ⟨rfl, N751, K753⟩ (by decide) (by decide)
              · refine Go.icmpYes (pc' := 201) C X101 at_192 (feq (x := (p1 &&& (7 : Int32))) (y := (7 : Int32)) hc192_738).2 (by decide) (by decide) ?_
                refine Go.iloadN (pc' := 202) C X101 at_201 rfl rfl ?_
                refine Go.iconst (z := (3 : Int32)) (pc' := 203) C X101 at_202 rfl rfl ?_
                refine Go.iand (pc' := 204) C X101 at_203 rfl ?_
                refine Go.istore (Ls' := #[.val (.int p1), .val (.int p2), .val (.int p3), .val (.int p4), .val (.int p5), .val (.int p6), .val (.int d6), .val (.int (p4 &&& (65535 : Int32))), .val (.int (p1 &&& (7 : Int32))), .unset, .val (.int (p3 &&& (3 : Int32))), .unset]) (pc' := 206) C X101 at_204 rfl rfl ?_
                rcases own_c4 p3 with hl3 | hl3 | hl3 | hl3
                · rw [hl3]
                  refine Go.iload (pc' := 208) C X101 at_206 rfl rfl ?_
                  refine Go.newP (aty := .char) (cap := 0) (vs := []) (ad := "[C") (pc' := 210) C X101 (by decide) (tw hw 8 rfl) e101 (by decide) (by decide) (by decide) (by decide) (by decide) rfl at_208 rfl ?_
                  intro T755 h755 b755 k755 X755 e755 g755 E755 A755 Ea755
                  have Hr756 := CHr.trans Hr0 (CHr.ext E755 Hr0.1)
                  have n_b755 : Z.heap.size ≤ b755 := Nat.le_trans O0.1 (Nat.le_of_eq g755.symm)
                  have z_b755 : h0.size ≤ b755 := Nat.le_trans (Nat.le_refl _) (Nat.le_of_eq g755.symm)
                  have s_b755 : Safe Z consts_1 s.vm h755 b755 := Safe.ext E755 Hr0.1 (Safe.new (Nat.le_of_eq g755.symm))
                  have A755 : AL Z h755 b755 k755 .char [] := A755
                  refine Go.astore (Ls' := #[.val (.int p1), .val (.int p2), .val (.int p3), .val (.int p4), .val (.int p5), .val (.int p6), .val (.int d6), .val (.int (p4 &&& (65535 : Int32))), .val (.int (p1 &&& (7 : Int32))), .unset, .val (.int (0 : Int32)), .val (.ref b755)]) (pc' := 212) C X755 at_210 rfl rfl rfl ?_
                  refine Go.iload (pc' := 214) C X755 at_212 rfl rfl ?_
                  refine Go.ifYes (pc' := 223) C X755 at_214 ((if0 _ _).trans (flt (x := (0 : Int32)) (y := (0 : Int32)) (by decide)).2.2.2) (by decide) (by decide) ?_
                  refine Go.iload (pc' := 225) C X755 at_223 rfl rfl ?_
                  refine Go.iconst (z := (1 : Int32)) (pc' := 226) C X755 at_225 rfl rfl ?_
                  refine Go.icmpYes (pc' := 239) C X755 at_226 (flt (x := (1 : Int32)) (y := (0 : Int32)) (by decide)).2.2.2 (by decide) (by decide) ?_
                  refine Go.iload (pc' := 241) C X755 at_239 rfl rfl ?_
                  refine Go.iconst (z := (2 : Int32)) (pc' := 242) C X755 at_241 rfl rfl ?_
                  refine Go.icmpYes (pc' := 255) C X755 at_242 (flt (x := (2 : Int32)) (y := (0 : Int32)) (by decide)).2.2.2 (by decide) (by decide) ?_
                  have O761 : Ext Z.heap h755 := (Ext.trans O0 E755)
                  refine Go.newO (pc' := 258) C X755 (tw hw 1 rfl) (tw hw 2 rfl) (tw hw 3 rfl) e755 (by decide) (by decide) at_255 rfl ?_
                  intro T760 h760 b760 X760 e760 g760 E760 A760 D760
                  have Hr762 := CHr.trans Hr756 (CHr.ext E760 Hr756.1)
                  have n_b760 : Z.heap.size ≤ b760 := Nat.le_trans O761.1 (Nat.le_of_eq g760.symm)
                  have z_b760 : h0.size ≤ b760 := Nat.le_trans (Nat.le_trans (Nat.le_refl _) E755.1) (Nat.le_of_eq g760.symm)
                  have s_b760 : Safe Z consts_1 s.vm h760 b760 := Safe.ext E760 Hr756.1 (Safe.new (Nat.le_of_eq g760.symm))
                  have F760_coder : Fld Z h760 b760 "java/lang/String" "coder" "B" (.int (0 : Int32)) := D760 (Or.inr (tw hw 32 rfl)) (ty := .byte) (by decide)
                  have F760_value : Fld Z h760 b760 "java/lang/String" "value" "[B" .null := D760 (Or.inr (tw hw 34 rfl)) (ty := (.array .byte)) (by decide)
                  refine Go.dup (pc' := 259) C X760 at_258 rfl rfl ?_
                  refine Go.aload (pc' := 261) C X760 at_259 rfl rfl rfl ?_
                  have c764 : AL Z h760 b755 k755 .char [] := (AL.ext E760 A755)
                  have O765 : Ext Z.heap h760 := (Ext.trans O761 E760)
                  have Si766 : Sin s s h760 := Sin.mono Si0 (Nat.le_trans (Nat.le_trans (Nat.le_refl _) E755.1) E760.1)
                  refine Go.callIH (y := mN8) (a := b760) (pc' := 264) C X760 Si766 (EWc hw) Hr762.1 rfl (tw hw 9 rfl) (tw hw 10 rfl) (by decide) (allS ⟨Nat.lt_of_lt_of_le A760.lt (Nat.le_refl _), s_b760⟩ all0) (rm_sI1z l Z a0 hw b760 b755 k755 h760 O765 A760 F760_value F760_coder c764 n_b760) (tw hw 11 rfl) (tw hw 3 rfl) e760 (argsL := [(.ref b755)]) (rest := [(.ref b760)]) (W := 1) rfl rfl pd_12 rfl (Nat.le_of_eq rfl) rfl (by decide) (by decide) (by decide) (by decide) rfl at_261 rfl ?_
                  intro T763 v763 L763 sC763 C763 X763 Si763 hR763 q763
                  obtain ⟨v_763, kv_763, rfl, N763q, K763, P763_0, P763_1, P763_2⟩ := q763
                  have N763 := Fr.app N101 N763q
                  have Hr767 := CHr.trans Hr762 hR763
                  refine Go.astore (Ls' := #[.val (.int p1), .val (.int p2), .val (.int p3), .val (.int p4), .val (.int p5), .val (.int p6), .val (.int d6), .val (.int (p4 &&& (65535 : Int32))), .val (.int (p1 &&& (7 : Int32))), .val (.ref b760), .val (.int (0 : Int32)), .val (.ref b755)]) (pc' := 266) C763 X763 at_264 rfl rfl rfl ?_
                  have O769 : Ext Z.heap T763.heap := (Ext.keep O765 K763 (allS n_b760 all0))
                  refine Go.ldcH (pc' := 268) (n := 60) (vs := [(.int (108 : Int32)), (.int (97 : Int32)), (.int (119 : Int32)), (.int (45 : Int32)), (.int (101 : Int32)), (.int (110 : Int32)), (.int (102 : Int32)), (.int (111 : Int32)), (.int (114 : Int32)), (.int (99 : Int32)), (.int (101 : Int32)), (.int (109 : Int32)), (.int (101 : Int32)), (.int (110 : Int32)), (.int (116 : Int32))]) (z := (15 : Int32)) C763 X763 Si763 (EWc hw) Hr767.1 (tw hw 35 rfl) (wS hw) rfl (by decide) (by decide) (by decide) (by decide) (by decide) (by decide) (by decide) (by decide) at_266 rfl ?_
                  intro T768 h768 b768 sC768 v768 k768 C768 X768 e768 Si768 E768 hR768 A768 F768c F768v B768 hne768
                  have Hr770 := CHr.trans Hr767 hR768
                  have c771 : Exa Z h768 b755 "[C" := (Exa.ext E768 (Exa.keep (Exa.ext E760 Ea755) K763))
                  have hx768_b755 := hne768 b755 (Safe.exa C768.2.1.alike c771 (by decide) (by decide))
                  have sa772 : Safe Z consts_1 sC768.vm h768 b760 := (CHr.safe hR768 (Nat.lt_of_lt_of_le A760.lt (Nat.le_trans (Nat.le_refl _) K763.1)) (CHr.safe hR763 (Nat.lt_of_lt_of_le A760.lt (Nat.le_refl _)) s_b760))
                  have hx768_b760 := hne768 b760 sa772
                  have tx773 : AL Z h768 v768 k768 .byte (by8 leL) := leV ▸ B768
                  refine Go.aload (pc' := 270) C768 X768 at_268 rfl rfl rfl ?_
                  have c775 : Exa Z h768 b760 "java/lang/String" := (Exa.ext E768 (Exa.keep A760 K763))
                  have c776 : Fld Z h768 b760 "java/lang/String" "value" "[B" (.ref v_763) := (Fld.ext E768 P763_0)
                  have c777 : Fld Z h768 b760 "java/lang/String" "coder" "B" (.int (0 : Int32)) := (Fld.ext E768 P763_1)
                  have c778 : AL Z h768 v_763 kv_763 .byte (by8 []) := (AL.ext E768 P763_2)
                  have O779 : Ext Z.heap h768 := (Ext.trans O769 E768)
                  refine Go.callV (y := mN10) (z := mN10) (a := b768) (pc' := 273) C768 X768 (tw hw 38 rfl) (tw hw 39 rfl) (notFace_at C768.2.1 (tw hw 41 rfl)) (tw hw 41 rfl) (tw hw 40 rfl) A768 (by decide) (rm_eqS l Z a0 hw b768 b760 v768 v_763 k768 kv_763 leL [] cP h768 O779 SC A768 F768v F768c tx773 c775 c776 c777 c778 (Ne.symm hx768_b760.1) hP (by decide) (by decide)) (tw hw 42 rfl) (tw hw 3 rfl) e768 (argsL := [(.ref b760)]) (rest := []) (W := 0) rfl rfl pd_10 rfl (Nat.le_of_eq rfl) rfl (by decide) (by decide) (by decide) (by decide) at_270 rfl ?_
                  intro T774 v774 L774 X774 q774
                  obtain ⟨rfl, rfl, e774⟩ := q774
                  have N774 := Fr.app N763 (Fr.nil _)
                  by_cases hc273_780 : (if by8 leL = by8 [] then (1 : Int32) else 0) = (0 : Int32)
                  · refine Go.ifYes (pc' := 284) C768 X774 at_273 ((if0 _ _).trans (teq (x := (if by8 leL = by8 [] then (1 : Int32) else 0)) (y := (0 : Int32)) hc273_780).1) (by decide) (by decide) ?_
                    refine Go.ldcH (pc' := 286) (n := 68) (vs := [(.int (100 : Int32)), (.int (105 : Int32)), (.int (115 : Int32)), (.int (116 : Int32)), (.int (114 : Int32)), (.int (105 : Int32)), (.int (99 : Int32)), (.int (116 : Int32)), (.int (45 : Int32)), (.int (97 : Int32)), (.int (116 : Int32)), (.int (116 : Int32)), (.int (111 : Int32)), (.int (114 : Int32)), (.int (110 : Int32)), (.int (101 : Int32)), (.int (121 : Int32))]) (z := (17 : Int32)) C768 X774 Si768 (EWc hw) Hr770.1 (tw hw 76 rfl) (wS hw) e774 (by decide) (by decide) (by decide) (by decide) (by decide) (by decide) (by decide) (by decide) at_284 rfl ?_
                    intro T781 h781 b781 sC781 v781 k781 C781 X781 e781 Si781 E781 hR781 A781 F781c F781v B781 hne781
                    have Hr782 := CHr.trans Hr770 hR781
                    have c783 : Exa Z h781 b755 "[C" := (Exa.ext E781 c771)
                    have hx781_b755 := hne781 b755 (Safe.exa C781.2.1.alike c783 (by decide) (by decide))
                    have sa784 : Safe Z consts_1 sC781.vm h781 b760 := (CHr.safe hR781 (Nat.lt_of_lt_of_le A760.lt (Nat.le_trans (Nat.le_trans (Nat.le_refl _) K763.1) E768.1)) sa772)
                    have hx781_b760 := hne781 b760 sa784
                    have tx785 : AL Z h781 v781 k781 .byte (by8 daL) := daV ▸ B781
                    refine Go.aload (pc' := 288) C781 X781 at_286 rfl rfl rfl ?_
                    have c787 : Exa Z h781 b760 "java/lang/String" := (Exa.ext E781 c775)
                    have c788 : Fld Z h781 b760 "java/lang/String" "value" "[B" (.ref v_763) := (Fld.ext E781 c776)
                    have c789 : Fld Z h781 b760 "java/lang/String" "coder" "B" (.int (0 : Int32)) := (Fld.ext E781 c777)
                    have c790 : AL Z h781 v_763 kv_763 .byte (by8 []) := (AL.ext E781 c778)
                    have O791 : Ext Z.heap h781 := (Ext.trans O779 E781)
                    refine Go.callV (y := mN10) (z := mN10) (a := b781) (pc' := 291) C781 X781 (tw hw 38 rfl) (tw hw 39 rfl) (notFace_at C781.2.1 (tw hw 41 rfl)) (tw hw 41 rfl) (tw hw 40 rfl) A781 (by decide) (rm_eqS l Z a0 hw b781 b760 v781 v_763 k781 kv_763 daL [] cP h781 O791 SC A781 F781v F781c tx785 c787 c788 c789 c790 (Ne.symm hx781_b760.1) hP (by decide) (by decide)) (tw hw 42 rfl) (tw hw 3 rfl) e781 (argsL := [(.ref b760)]) (rest := []) (W := 0) rfl rfl pd_10 rfl (Nat.le_of_eq rfl) rfl (by decide) (by decide) (by decide) (by decide) at_288 rfl ?_
                    intro T786 v786 L786 X786 q786
                    obtain ⟨rfl, rfl, e786⟩ := q786
                    have N786 := Fr.app N774 (Fr.nil _)
                    by_cases hc291_792 : (if by8 daL = by8 [] then (1 : Int32) else 0) = (0 : Int32)
                    · refine Go.ifYes (pc' := 302) C781 X786 at_291 ((if0 _ _).trans (teq (x := (if by8 daL = by8 [] then (1 : Int32) else 0)) (y := (0 : Int32)) hc291_792).1) (by decide) (by decide) ?_
                      refine Go.aconstNull (pc' := 303) C781 X786 at_302 rfl ?_
                      refine Go.astore (Ls' := #[.val (.int p1), .val (.int p2), .val (.int p3), .val (.int p4), .val (.int p5), .val (.int p6), .val (.int d6), .val (.int (p4 &&& (65535 : Int32))), .val (.int (p1 &&& (7 : Int32))), .val (.ref b760), .val .null, .val (.ref b755)]) (pc' := 305) C781 X786 at_303 rfl rfl rfl ?_
                      refine Go.aload (pc' := 307) C781 X786 at_305 rfl rfl rfl ?_
                      have ne794 : tle ≠ b760 := Nat.ne_of_lt (Nat.lt_of_lt_of_le (Nat.lt_of_lt_of_le le_0.lt O0.1) (Nat.le_trans (Nat.le_trans (Nat.le_refl _) E755.1) (Nat.le_of_eq g760.symm)))
                      have ne795 : tda ≠ b760 := Nat.ne_of_lt (Nat.lt_of_lt_of_le (Nat.lt_of_lt_of_le da_0.lt O0.1) (Nat.le_trans (Nat.le_trans (Nat.le_refl _) E755.1) (Nat.le_of_eq g760.symm)))
                      refine Go.callS (y := mN0) (pc' := 310) C781 X786 (tw hw 51 rfl) (tw hw 52 rfl) (by decide) (rm_nmLno l Z a0 hw va vk le0 tle lev lek da0 tda dav dak b760 cP v_763 kv_763 [] h781 O791 SV Ev Av Tle le_0 le_1 le_2 le_3 Tda da_0 da_1 da_2 da_3 c787 c788 c789 c790 SC hP ne794 ne795 (by decide) (own_ifz hc273_780) (own_ifz hc291_792)) (tw hw 53 rfl) (tw hw 49 rfl) e786 (argsL := [(.ref b760)]) (rest := []) (W := 0) rfl rfl pd_13 rfl (Nat.le_of_eq rfl) rfl (by decide) (by decide) (by decide) (by decide) at_307 rfl ?_
                      intro T793 v793 L793 X793 q793
                      obtain ⟨rfl, N793q, K793⟩ := q793
                      have N793 := Fr.app N786 N793q
                      have Hr796 := CHr.trans Hr782 (CHr.keep K793 all0 Hr782.1)
                      refine Go.aload (pc' := 312) C781 X793 at_310 rfl rfl rfl ?_
                      refine Go.acmpNo (pc' := 315) C781 X793 at_312 rfl rfl (XT.aa_ne_f rfl) rfl ?_
                      refine Go.iconst (z := (1 : Int32)) (pc' := 316) C781 X793 at_315 rfl rfl ?_
                      refine Go.goto (pc' := 320) C781 X793 at_316 (by decide) (by decide) ?_
                      have K797 : Keep h0 T793.heap [] := (((((((Keep.refl h0 []).ext E755).ext E760).trans K763 (allS (Or.inr z_b760) all0)).ext E768).ext E781).trans K793 all0)
                      have Si798 : Sin s sC781 T793.heap := Sin.mono Si781 (Nat.le_trans (Nat.le_refl _) K793.1)
                      exact Go.retNH C781 X793 Si798 (EWc hw) Hr796 rfl at_320 (by simp) ⟨rfl, N793, K797⟩ (by decide) (by decide)
                    · refine Go.ifNo (pc' := 294) C781 X786 at_291 ((if0 _ _).trans (feq (x := (if by8 daL = by8 [] then (1 : Int32) else 0)) (y := (0 : Int32)) hc291_792).1) rfl ?_
                      refine Go.getS (pc' := 297) (host := "") C781 X786 (Or.inl (tw hw 110 rfl)) Via.refl e786 (Sda.ext O791) at_294 rfl ?_
                      intro T799 X799 e799
                      refine Go.astore (Ls' := #[.val (.int p1), .val (.int p2), .val (.int p3), .val (.int p4), .val (.int p5), .val (.int p6), .val (.int d6), .val (.int (p4 &&& (65535 : Int32))), .val (.int (p1 &&& (7 : Int32))), .val (.ref b760), .val (.ref da0), .val (.ref b755)]) (pc' := 299) C781 X799 at_297 rfl rfl rfl ?_
                      refine Go.goto (pc' := 305) C781 X799 at_299 (by decide) (by decide) ?_
                      refine Go.aload (pc' := 307) C781 X799 at_305 rfl rfl rfl ?_
                      have ne801 : tle ≠ b760 := Nat.ne_of_lt (Nat.lt_of_lt_of_le (Nat.lt_of_lt_of_le le_0.lt O0.1) (Nat.le_trans (Nat.le_trans (Nat.le_refl _) E755.1) (Nat.le_of_eq g760.symm)))
                      have ne802 : tda ≠ b760 := Nat.ne_of_lt (Nat.lt_of_lt_of_le (Nat.lt_of_lt_of_le da_0.lt O0.1) (Nat.le_trans (Nat.le_trans (Nat.le_refl _) E755.1) (Nat.le_of_eq g760.symm)))
                      refine Go.callS (y := mN0) (pc' := 310) C781 X799 (tw hw 51 rfl) (tw hw 52 rfl) (by decide) (rm_nmLda l Z a0 hw va vk le0 tle lev lek da0 tda dav dak b760 cP v_763 kv_763 [] h781 O791 SV Ev Av Tle le_0 le_1 le_2 le_3 Tda da_0 da_1 da_2 da_3 c787 c788 c789 c790 SC hP ne801 ne802 (by decide) (own_ifz hc273_780) (own_ifn hc291_792)) (tw hw 53 rfl) (tw hw 49 rfl) e799 (argsL := [(.ref b760)]) (rest := []) (W := 0) rfl rfl pd_13 rfl (Nat.le_of_eq rfl) rfl (by decide) (by decide) (by decide) (by decide) at_307 rfl ?_
                      intro T800 v800 L800 X800 q800
                      obtain ⟨rfl, N800q, K800⟩ := q800
                      have N800 := Fr.app N786 N800q
                      have Hr803 := CHr.trans Hr782 (CHr.keep K800 all0 Hr782.1)
                      refine Go.aload (pc' := 312) C781 X800 at_310 rfl rfl rfl ?_
                      refine Go.acmpNo (pc' := 315) C781 X800 at_312 rfl rfl (XT.aa_ne_f rfl) rfl ?_
                      refine Go.iconst (z := (1 : Int32)) (pc' := 316) C781 X800 at_315 rfl rfl ?_
                      refine Go.goto (pc' := 320) C781 X800 at_316 (by decide) (by decide) ?_
                      have K804 : Keep h0 T800.heap [] := (((((((Keep.refl h0 []).ext E755).ext E760).trans K763 (allS (Or.inr z_b760) all0)).ext E768).ext E781).trans K800 all0)
                      have Si805 : Sin s sC781 T800.heap := Sin.mono Si781 (Nat.le_trans (Nat.le_refl _) K800.1)
                      exact Go.retNH C781 X800 Si805 (EWc hw) Hr803 rfl at_320 (by simp) ⟨rfl, N800, K804⟩ (by decide) (by decide)
                  · refine Go.ifNo (pc' := 276) C768 X774 at_273 ((if0 _ _).trans (feq (x := (if by8 leL = by8 [] then (1 : Int32) else 0)) (y := (0 : Int32)) hc273_780).1) rfl ?_
                    refine Go.getS (pc' := 279) (host := "") C768 X774 (Or.inl (tw hw 48 rfl)) Via.refl e774 (Sle.ext O779) at_276 rfl ?_
                    intro T806 X806 e806
                    refine Go.astore (Ls' := #[.val (.int p1), .val (.int p2), .val (.int p3), .val (.int p4), .val (.int p5), .val (.int p6), .val (.int d6), .val (.int (p4 &&& (65535 : Int32))), .val (.int (p1 &&& (7 : Int32))), .val (.ref b760), .val (.ref le0), .val (.ref b755)]) (pc' := 281) C768 X806 at_279 rfl rfl rfl ?_
                    refine Go.goto (pc' := 305) C768 X806 at_281 (by decide) (by decide) ?_
                    refine Go.aload (pc' := 307) C768 X806 at_305 rfl rfl rfl ?_
                    have ne808 : tle ≠ b760 := Nat.ne_of_lt (Nat.lt_of_lt_of_le (Nat.lt_of_lt_of_le le_0.lt O0.1) (Nat.le_trans (Nat.le_trans (Nat.le_refl _) E755.1) (Nat.le_of_eq g760.symm)))
                    have ne809 : tda ≠ b760 := Nat.ne_of_lt (Nat.lt_of_lt_of_le (Nat.lt_of_lt_of_le da_0.lt O0.1) (Nat.le_trans (Nat.le_trans (Nat.le_refl _) E755.1) (Nat.le_of_eq g760.symm)))
                    refine Go.callS (y := mN0) (pc' := 310) C768 X806 (tw hw 51 rfl) (tw hw 52 rfl) (by decide) (rm_nmLle l Z a0 hw va vk le0 tle lev lek da0 tda dav dak b760 cP v_763 kv_763 [] h768 O779 SV Ev Av Tle le_0 le_1 le_2 le_3 Tda da_0 da_1 da_2 da_3 c775 c776 c777 c778 SC hP ne808 ne809 (by decide) (own_ifn hc273_780)) (tw hw 53 rfl) (tw hw 49 rfl) e806 (argsL := [(.ref b760)]) (rest := []) (W := 0) rfl rfl pd_13 rfl (Nat.le_of_eq rfl) rfl (by decide) (by decide) (by decide) (by decide) at_307 rfl ?_
                    intro T807 v807 L807 X807 q807
                    obtain ⟨rfl, N807q, K807⟩ := q807
                    have N807 := Fr.app N774 N807q
                    have Hr810 := CHr.trans Hr770 (CHr.keep K807 all0 Hr770.1)
                    refine Go.aload (pc' := 312) C768 X807 at_310 rfl rfl rfl ?_
                    refine Go.acmpNo (pc' := 315) C768 X807 at_312 rfl rfl (XT.aa_ne_f rfl) rfl ?_
                    refine Go.iconst (z := (1 : Int32)) (pc' := 316) C768 X807 at_315 rfl rfl ?_
                    refine Go.goto (pc' := 320) C768 X807 at_316 (by decide) (by decide) ?_
                    have K811 : Keep h0 T807.heap [] := ((((((Keep.refl h0 []).ext E755).ext E760).trans K763 (allS (Or.inr z_b760) all0)).ext E768).trans K807 all0)
                    have Si812 : Sin s sC768 T807.heap := Sin.mono Si768 (Nat.le_trans (Nat.le_refl _) K807.1)
                    exact Go.retNH C768 X807 Si812 (EWc hw) Hr810 rfl at_320 (by simp) ⟨rfl, N807, K811⟩ (by decide) (by decide)
                · rw [hl3]
                  refine Go.iload (pc' := 208) C X101 at_206 rfl rfl ?_
                  refine Go.newP (aty := .char) (cap := 1) (vs := [(.int (0 : Int32))]) (ad := "[C") (pc' := 210) C X101 (by decide) (tw hw 8 rfl) e101 (by decide) (by decide) (by decide) (by decide) (by decide) rfl at_208 rfl ?_
                  intro T813 h813 b813 k813 X813 e813 g813 E813 A813 Ea813
                  have Hr814 := CHr.trans Hr0 (CHr.ext E813 Hr0.1)
                  have n_b813 : Z.heap.size ≤ b813 := Nat.le_trans O0.1 (Nat.le_of_eq g813.symm)
                  have z_b813 : h0.size ≤ b813 := Nat.le_trans (Nat.le_refl _) (Nat.le_of_eq g813.symm)
                  have s_b813 : Safe Z consts_1 s.vm h813 b813 := Safe.ext E813 Hr0.1 (Safe.new (Nat.le_of_eq g813.symm))
                  have A813 : AL Z h813 b813 k813 .char [(.int (0 : Int32))] := A813
                  refine Go.astore (Ls' := #[.val (.int p1), .val (.int p2), .val (.int p3), .val (.int p4), .val (.int p5), .val (.int p6), .val (.int d6), .val (.int (p4 &&& (65535 : Int32))), .val (.int (p1 &&& (7 : Int32))), .unset, .val (.int (1 : Int32)), .val (.ref b813)]) (pc' := 212) C X813 at_210 rfl rfl rfl ?_
                  refine Go.iload (pc' := 214) C X813 at_212 rfl rfl ?_
                  refine Go.ifNo (pc' := 217) C X813 at_214 ((if0 _ _).trans (tlt (x := (0 : Int32)) (y := (1 : Int32)) (by decide)).2.2.2) rfl ?_
                  refine Go.aload (pc' := 219) C X813 at_217 rfl rfl rfl ?_
                  refine Go.iconst (z := (0 : Int32)) (pc' := 220) C X813 at_219 rfl rfl ?_
                  refine Go.iload (pc' := 222) C X813 at_220 rfl rfl ?_
                  refine Go.stC (i := 0) (x' := (p4 &&& (65535 : Int32))) (vs' := [(.int (p4 &&& (65535 : Int32)))]) (pc' := 223) C X813 e813 A813 (by decide) (by decide) (by simp) (n16 _) rfl at_222 rfl ?_
                  intro T816 h816 X816 e816 W816 A816
                  have Hr817 := CHr.trans Hr814 (CHr.wr W816 (Safe.exa C.2.1.alike Ea813 (by decide) (by decide)) Hr814.1)
                  have N816 := Fr.snoc X816 N101 n_b813
                  refine Go.iload (pc' := 225) C X816 at_223 rfl rfl ?_
                  refine Go.iconst (z := (1 : Int32)) (pc' := 226) C X816 at_225 rfl rfl ?_
                  refine Go.icmpYes (pc' := 239) C X816 at_226 (flt (x := (1 : Int32)) (y := (1 : Int32)) (by decide)).2.2.2 (by decide) (by decide) ?_
                  refine Go.iload (pc' := 241) C X816 at_239 rfl rfl ?_
                  refine Go.iconst (z := (2 : Int32)) (pc' := 242) C X816 at_241 rfl rfl ?_
                  refine Go.icmpYes (pc' := 255) C X816 at_242 (flt (x := (2 : Int32)) (y := (1 : Int32)) (by decide)).2.2.2 (by decide) (by decide) ?_
                  have O821 : Ext Z.heap h816 := (Ext.wr (Ext.trans O0 E813) W816 n_b813)
                  refine Go.newO (pc' := 258) C X816 (tw hw 1 rfl) (tw hw 2 rfl) (tw hw 3 rfl) e816 (by decide) (by decide) at_255 rfl ?_
                  intro T820 h820 b820 X820 e820 g820 E820 A820 D820
                  have Hr822 := CHr.trans Hr817 (CHr.ext E820 Hr817.1)
                  have n_b820 : Z.heap.size ≤ b820 := Nat.le_trans O821.1 (Nat.le_of_eq g820.symm)
                  have z_b820 : h0.size ≤ b820 := Nat.le_trans (Nat.le_trans (Nat.le_trans (Nat.le_refl _) E813.1) (Nat.le_of_eq W816.size.symm)) (Nat.le_of_eq g820.symm)
                  have s_b820 : Safe Z consts_1 s.vm h820 b820 := Safe.ext E820 Hr817.1 (Safe.new (Nat.le_of_eq g820.symm))
                  have F820_coder : Fld Z h820 b820 "java/lang/String" "coder" "B" (.int (0 : Int32)) := D820 (Or.inr (tw hw 32 rfl)) (ty := .byte) (by decide)
                  have F820_value : Fld Z h820 b820 "java/lang/String" "value" "[B" .null := D820 (Or.inr (tw hw 34 rfl)) (ty := (.array .byte)) (by decide)
                  refine Go.dup (pc' := 259) C X820 at_258 rfl rfl ?_
                  refine Go.aload (pc' := 261) C X820 at_259 rfl rfl rfl ?_
                  have hlen : [(p4 &&& (65535 : Int32))].length = 1 := by rfl
                  rcases split16 [(p4 &&& (65535 : Int32))] (by intro x hx; simp only [List.mem_cons, List.not_mem_nil, or_false] at hx; rcases hx with rfl <;> exact m16 _) with hAll | ⟨j, xj, hj, hx, hx2, hb⟩
                  · have c824 : AL Z h820 b813 k813 .char [(.int (p4 &&& (65535 : Int32)))] := (AL.ext E820 A816)
                    have O825 : Ext Z.heap h820 := (Ext.trans O821 E820)
                    refine Go.callI (y := mN8) (a := b820) (pc' := 264) C X820 rfl (tw hw 9 rfl) (tw hw 10 rfl) (by decide) (rm_sI1 l Z a0 hw b820 b813 k813 ([(p4 &&& (65535 : Int32))]) cP h820 O825 A820 F820_value F820_coder (show AL Z h820 b813 k813 .char (ch16 [(p4 &&& (65535 : Int32))]) from c824) SC hAll (by rw [hlen]; decide) (by rw [hlen]; decide) (by rw [hlen]; decide) hP n_b820) (tw hw 11 rfl) (tw hw 3 rfl) e820 (argsL := [(.ref b813)]) (rest := [(.ref b820)]) (W := 1) rfl rfl pd_12 rfl (Nat.le_of_eq rfl) rfl (by decide) (by decide) (by decide) (by decide) rfl at_261 rfl ?_
                    intro T823 v823 L823 X823 q823
                    obtain ⟨v_823, kv_823, rfl, N823q, K823, B823_0, P823_0, P823_1, P823_2⟩ := q823
                    have N823 := Fr.app N816 N823q
                    have Hr826 := CHr.trans Hr822 (CHr.keep K823 (allS s_b820 all0) Hr822.1)
                    have n_v_823 : Z.heap.size ≤ v_823 := Nat.le_trans O825.1 B823_0
                    have z_v_823 : h0.size ≤ v_823 := Nat.le_trans (Nat.le_trans (Nat.le_trans (Nat.le_trans (Nat.le_refl _) E813.1) (Nat.le_of_eq W816.size.symm)) E820.1) B823_0
                    have s_v_823 : Safe Z consts_1 s.vm T823.heap v_823 := Safe.keep K823 (allS s_b820 all0) Hr822.1 (Safe.new B823_0)
                    refine Go.astore (Ls' := #[.val (.int p1), .val (.int p2), .val (.int p3), .val (.int p4), .val (.int p5), .val (.int p6), .val (.int d6), .val (.int (p4 &&& (65535 : Int32))), .val (.int (p1 &&& (7 : Int32))), .val (.ref b820), .val (.int (1 : Int32)), .val (.ref b813)]) (pc' := 266) C X823 at_264 rfl rfl rfl ?_
                    have O828 : Ext Z.heap T823.heap := (Ext.keep O825 K823 (allS n_b820 all0))
                    have Si829 : Sin s s T823.heap := Sin.mono Si0 (Nat.le_trans (Nat.le_trans (Nat.le_trans (Nat.le_trans (Nat.le_refl _) E813.1) (Nat.le_of_eq W816.size.symm)) E820.1) K823.1)
                    refine Go.ldcH (pc' := 268) (n := 60) (vs := [(.int (108 : Int32)), (.int (97 : Int32)), (.int (119 : Int32)), (.int (45 : Int32)), (.int (101 : Int32)), (.int (110 : Int32)), (.int (102 : Int32)), (.int (111 : Int32)), (.int (114 : Int32)), (.int (99 : Int32)), (.int (101 : Int32)), (.int (109 : Int32)), (.int (101 : Int32)), (.int (110 : Int32)), (.int (116 : Int32))]) (z := (15 : Int32)) C X823 Si829 (EWc hw) Hr826.1 (tw hw 35 rfl) (wS hw) rfl (by decide) (by decide) (by decide) (by decide) (by decide) (by decide) (by decide) (by decide) at_266 rfl ?_
                    intro T827 h827 b827 sC827 v827 k827 C827 X827 e827 Si827 E827 hR827 A827 F827c F827v B827 hne827
                    have Hr830 := CHr.trans Hr826 hR827
                    have c831 : Exa Z h827 b813 "[C" := (Exa.ext E827 (Exa.keep (Exa.ext E820 (Exa.wr W816 Ea813)) K823))
                    have hx827_b813 := hne827 b813 (Safe.exa C827.2.1.alike c831 (by decide) (by decide))
                    have sa832 : Safe Z consts_1 sC827.vm h827 b820 := (CHr.safe hR827 (Nat.lt_of_lt_of_le A820.lt (Nat.le_trans (Nat.le_refl _) K823.1)) (Safe.keep K823 (allS s_b820 all0) Hr822.1 s_b820))
                    have hx827_b820 := hne827 b820 sa832
                    have sa833 : Safe Z consts_1 sC827.vm h827 v_823 := (CHr.safe hR827 (Nat.lt_of_lt_of_le P823_2.lt (Nat.le_refl _)) s_v_823)
                    have hx827_v_823 := hne827 v_823 sa833
                    have tx834 : AL Z h827 v827 k827 .byte (by8 leL) := leV ▸ B827
                    refine Go.aload (pc' := 270) C827 X827 at_268 rfl rfl rfl ?_
                    have c836 : Exa Z h827 b820 "java/lang/String" := (Exa.ext E827 (Exa.keep A820 K823))
                    have c837 : Fld Z h827 b820 "java/lang/String" "value" "[B" (.ref v_823) := (Fld.ext E827 P823_0)
                    have c838 : Fld Z h827 b820 "java/lang/String" "coder" "B" (.int (0 : Int32)) := (Fld.ext E827 P823_1)
                    have c839 : AL Z h827 v_823 kv_823 .byte (by8 [(p4 &&& (65535 : Int32))]) := (AL.ext E827 P823_2)
                    have O840 : Ext Z.heap h827 := (Ext.trans O828 E827)
                    refine Go.callV (y := mN10) (z := mN10) (a := b827) (pc' := 273) C827 X827 (tw hw 38 rfl) (tw hw 39 rfl) (notFace_at C827.2.1 (tw hw 41 rfl)) (tw hw 41 rfl) (tw hw 40 rfl) A827 (by decide) (rm_eqS l Z a0 hw b827 b820 v827 v_823 k827 kv_823 leL ([(p4 &&& (65535 : Int32))]) cP h827 O840 SC A827 F827v F827c tx834 c836 c837 c838 c839 (Ne.symm hx827_b820.1) hP (by decide) (by rw [hlen]; decide)) (tw hw 42 rfl) (tw hw 3 rfl) e827 (argsL := [(.ref b820)]) (rest := []) (W := 0) rfl rfl pd_10 rfl (Nat.le_of_eq rfl) rfl (by decide) (by decide) (by decide) (by decide) at_270 rfl ?_
                    intro T835 v835 L835 X835 q835
                    obtain ⟨rfl, rfl, e835⟩ := q835
                    have N835 := Fr.app N823 (Fr.nil _)
                    by_cases hc273_841 : (if by8 leL = by8 [(p4 &&& (65535 : Int32))] then (1 : Int32) else 0) = (0 : Int32)
                    · refine Go.ifYes (pc' := 284) C827 X835 at_273 ((if0 _ _).trans (teq (x := (if by8 leL = by8 [(p4 &&& (65535 : Int32))] then (1 : Int32) else 0)) (y := (0 : Int32)) hc273_841).1) (by decide) (by decide) ?_
                      refine Go.ldcH (pc' := 286) (n := 68) (vs := [(.int (100 : Int32)), (.int (105 : Int32)), (.int (115 : Int32)), (.int (116 : Int32)), (.int (114 : Int32)), (.int (105 : Int32)), (.int (99 : Int32)), (.int (116 : Int32)), (.int (45 : Int32)), (.int (97 : Int32)), (.int (116 : Int32)), (.int (116 : Int32)), (.int (111 : Int32)), (.int (114 : Int32)), (.int (110 : Int32)), (.int (101 : Int32)), (.int (121 : Int32))]) (z := (17 : Int32)) C827 X835 Si827 (EWc hw) Hr830.1 (tw hw 76 rfl) (wS hw) e835 (by decide) (by decide) (by decide) (by decide) (by decide) (by decide) (by decide) (by decide) at_284 rfl ?_
                      intro T842 h842 b842 sC842 v842 k842 C842 X842 e842 Si842 E842 hR842 A842 F842c F842v B842 hne842
                      have Hr843 := CHr.trans Hr830 hR842
                      have c844 : Exa Z h842 b813 "[C" := (Exa.ext E842 c831)
                      have hx842_b813 := hne842 b813 (Safe.exa C842.2.1.alike c844 (by decide) (by decide))
                      have sa845 : Safe Z consts_1 sC842.vm h842 b820 := (CHr.safe hR842 (Nat.lt_of_lt_of_le A820.lt (Nat.le_trans (Nat.le_trans (Nat.le_refl _) K823.1) E827.1)) sa832)
                      have hx842_b820 := hne842 b820 sa845
                      have sa846 : Safe Z consts_1 sC842.vm h842 v_823 := (CHr.safe hR842 (Nat.lt_of_lt_of_le P823_2.lt (Nat.le_trans (Nat.le_refl _) E827.1)) sa833)
                      have hx842_v_823 := hne842 v_823 sa846
                      have tx847 : AL Z h842 v842 k842 .byte (by8 daL) := daV ▸ B842
                      refine Go.aload (pc' := 288) C842 X842 at_286 rfl rfl rfl ?_
                      have c849 : Exa Z h842 b820 "java/lang/String" := (Exa.ext E842 c836)
                      have c850 : Fld Z h842 b820 "java/lang/String" "value" "[B" (.ref v_823) := (Fld.ext E842 c837)
                      have c851 : Fld Z h842 b820 "java/lang/String" "coder" "B" (.int (0 : Int32)) := (Fld.ext E842 c838)
                      have c852 : AL Z h842 v_823 kv_823 .byte (by8 [(p4 &&& (65535 : Int32))]) := (AL.ext E842 c839)
                      have O853 : Ext Z.heap h842 := (Ext.trans O840 E842)
                      refine Go.callV (y := mN10) (z := mN10) (a := b842) (pc' := 291) C842 X842 (tw hw 38 rfl) (tw hw 39 rfl) (notFace_at C842.2.1 (tw hw 41 rfl)) (tw hw 41 rfl) (tw hw 40 rfl) A842 (by decide) (rm_eqS l Z a0 hw b842 b820 v842 v_823 k842 kv_823 daL ([(p4 &&& (65535 : Int32))]) cP h842 O853 SC A842 F842v F842c tx847 c849 c850 c851 c852 (Ne.symm hx842_b820.1) hP (by decide) (by rw [hlen]; decide)) (tw hw 42 rfl) (tw hw 3 rfl) e842 (argsL := [(.ref b820)]) (rest := []) (W := 0) rfl rfl pd_10 rfl (Nat.le_of_eq rfl) rfl (by decide) (by decide) (by decide) (by decide) at_288 rfl ?_
                      intro T848 v848 L848 X848 q848
                      obtain ⟨rfl, rfl, e848⟩ := q848
                      have N848 := Fr.app N835 (Fr.nil _)
                      by_cases hc291_854 : (if by8 daL = by8 [(p4 &&& (65535 : Int32))] then (1 : Int32) else 0) = (0 : Int32)
                      · refine Go.ifYes (pc' := 302) C842 X848 at_291 ((if0 _ _).trans (teq (x := (if by8 daL = by8 [(p4 &&& (65535 : Int32))] then (1 : Int32) else 0)) (y := (0 : Int32)) hc291_854).1) (by decide) (by decide) ?_
                        refine Go.aconstNull (pc' := 303) C842 X848 at_302 rfl ?_
                        refine Go.astore (Ls' := #[.val (.int p1), .val (.int p2), .val (.int p3), .val (.int p4), .val (.int p5), .val (.int p6), .val (.int d6), .val (.int (p4 &&& (65535 : Int32))), .val (.int (p1 &&& (7 : Int32))), .val (.ref b820), .val .null, .val (.ref b813)]) (pc' := 305) C842 X848 at_303 rfl rfl rfl ?_
                        refine Go.aload (pc' := 307) C842 X848 at_305 rfl rfl rfl ?_
                        have ne856 : tle ≠ b820 := Nat.ne_of_lt (Nat.lt_of_lt_of_le (Nat.lt_of_lt_of_le le_0.lt O0.1) (Nat.le_trans (Nat.le_trans (Nat.le_trans (Nat.le_refl _) E813.1) (Nat.le_of_eq W816.size.symm)) (Nat.le_of_eq g820.symm)))
                        have ne857 : tda ≠ b820 := Nat.ne_of_lt (Nat.lt_of_lt_of_le (Nat.lt_of_lt_of_le da_0.lt O0.1) (Nat.le_trans (Nat.le_trans (Nat.le_trans (Nat.le_refl _) E813.1) (Nat.le_of_eq W816.size.symm)) (Nat.le_of_eq g820.symm)))
                        refine Go.callS (y := mN0) (pc' := 310) C842 X848 (tw hw 51 rfl) (tw hw 52 rfl) (by decide) (rm_nmLno l Z a0 hw va vk le0 tle lev lek da0 tda dav dak b820 cP v_823 kv_823 ([(p4 &&& (65535 : Int32))]) h842 O853 SV Ev Av Tle le_0 le_1 le_2 le_3 Tda da_0 da_1 da_2 da_3 c849 c850 c851 c852 SC hP ne856 ne857 (by rw [hlen]; decide) (own_ifz hc273_841) (own_ifz hc291_854)) (tw hw 53 rfl) (tw hw 49 rfl) e848 (argsL := [(.ref b820)]) (rest := []) (W := 0) rfl rfl pd_13 rfl (Nat.le_of_eq rfl) rfl (by decide) (by decide) (by decide) (by decide) at_307 rfl ?_
                        intro T855 v855 L855 X855 q855
                        obtain ⟨rfl, N855q, K855⟩ := q855
                        have N855 := Fr.app N848 N855q
                        have Hr858 := CHr.trans Hr843 (CHr.keep K855 all0 Hr843.1)
                        refine Go.aload (pc' := 312) C842 X855 at_310 rfl rfl rfl ?_
                        refine Go.acmpNo (pc' := 315) C842 X855 at_312 rfl rfl (XT.aa_ne_f rfl) rfl ?_
                        refine Go.iconst (z := (1 : Int32)) (pc' := 316) C842 X855 at_315 rfl rfl ?_
                        refine Go.goto (pc' := 320) C842 X855 at_316 (by decide) (by decide) ?_
                        have K859 : Keep h0 T855.heap [] := ((((((((Keep.refl h0 []).ext E813).wr W816 (Or.inr z_b813)).ext E820).trans K823 (allS (Or.inr z_b820) all0)).ext E827).ext E842).trans K855 all0)
                        have Si860 : Sin s sC842 T855.heap := Sin.mono Si842 (Nat.le_trans (Nat.le_refl _) K855.1)
                        exact Go.retNH C842 X855 Si860 (EWc hw) Hr858 rfl at_320 (by simp) ⟨rfl, N855, K859⟩ (by decide) (by decide)
                      · refine Go.ifNo (pc' := 294) C842 X848 at_291 ((if0 _ _).trans (feq (x := (if by8 daL = by8 [(p4 &&& (65535 : Int32))] then (1 : Int32) else 0)) (y := (0 : Int32)) hc291_854).1) rfl ?_
                        refine Go.getS (pc' := 297) (host := "") C842 X848 (Or.inl (tw hw 110 rfl)) Via.refl e848 (Sda.ext O853) at_294 rfl ?_
                        intro T861 X861 e861
                        refine Go.astore (Ls' := #[.val (.int p1), .val (.int p2), .val (.int p3), .val (.int p4), .val (.int p5), .val (.int p6), .val (.int d6), .val (.int (p4 &&& (65535 : Int32))), .val (.int (p1 &&& (7 : Int32))), .val (.ref b820), .val (.ref da0), .val (.ref b813)]) (pc' := 299) C842 X861 at_297 rfl rfl rfl ?_
                        refine Go.goto (pc' := 305) C842 X861 at_299 (by decide) (by decide) ?_
                        refine Go.aload (pc' := 307) C842 X861 at_305 rfl rfl rfl ?_
                        have ne863 : tle ≠ b820 := Nat.ne_of_lt (Nat.lt_of_lt_of_le (Nat.lt_of_lt_of_le le_0.lt O0.1) (Nat.le_trans (Nat.le_trans (Nat.le_trans (Nat.le_refl _) E813.1) (Nat.le_of_eq W816.size.symm)) (Nat.le_of_eq g820.symm)))
                        have ne864 : tda ≠ b820 := Nat.ne_of_lt (Nat.lt_of_lt_of_le (Nat.lt_of_lt_of_le da_0.lt O0.1) (Nat.le_trans (Nat.le_trans (Nat.le_trans (Nat.le_refl _) E813.1) (Nat.le_of_eq W816.size.symm)) (Nat.le_of_eq g820.symm)))
                        refine Go.callS (y := mN0) (pc' := 310) C842 X861 (tw hw 51 rfl) (tw hw 52 rfl) (by decide) (rm_nmLda l Z a0 hw va vk le0 tle lev lek da0 tda dav dak b820 cP v_823 kv_823 ([(p4 &&& (65535 : Int32))]) h842 O853 SV Ev Av Tle le_0 le_1 le_2 le_3 Tda da_0 da_1 da_2 da_3 c849 c850 c851 c852 SC hP ne863 ne864 (by rw [hlen]; decide) (own_ifz hc273_841) (own_ifn hc291_854)) (tw hw 53 rfl) (tw hw 49 rfl) e861 (argsL := [(.ref b820)]) (rest := []) (W := 0) rfl rfl pd_13 rfl (Nat.le_of_eq rfl) rfl (by decide) (by decide) (by decide) (by decide) at_307 rfl ?_
                        intro T862 v862 L862 X862 q862
                        obtain ⟨rfl, N862q, K862⟩ := q862
                        have N862 := Fr.app N848 N862q
                        have Hr865 := CHr.trans Hr843 (CHr.keep K862 all0 Hr843.1)
                        refine Go.aload (pc' := 312) C842 X862 at_310 rfl rfl rfl ?_
                        refine Go.acmpNo (pc' := 315) C842 X862 at_312 rfl rfl (XT.aa_ne_f rfl) rfl ?_
                        refine Go.iconst (z := (1 : Int32)) (pc' := 316) C842 X862 at_315 rfl rfl ?_
                        refine Go.goto (pc' := 320) C842 X862 at_316 (by decide) (by decide) ?_
                        have K866 : Keep h0 T862.heap [] := ((((((((Keep.refl h0 []).ext E813).wr W816 (Or.inr z_b813)).ext E820).trans K823 (allS (Or.inr z_b820) all0)).ext E827).ext E842).trans K862 all0)
                        have Si867 : Sin s sC842 T862.heap := Sin.mono Si842 (Nat.le_trans (Nat.le_refl _) K862.1)
                        exact Go.retNH C842 X862 Si867 (EWc hw) Hr865 rfl at_320 (by simp) ⟨rfl, N862, K866⟩ (by decide) (by decide)
                    · refine Go.ifNo (pc' := 276) C827 X835 at_273 ((if0 _ _).trans (feq (x := (if by8 leL = by8 [(p4 &&& (65535 : Int32))] then (1 : Int32) else 0)) (y := (0 : Int32)) hc273_841).1) rfl ?_
                      refine Go.getS (pc' := 279) (host := "") C827 X835 (Or.inl (tw hw 48 rfl)) Via.refl e835 (Sle.ext O840) at_276 rfl ?_
                      intro T868 X868 e868
                      refine Go.astore (Ls' := #[.val (.int p1), .val (.int p2), .val (.int p3), .val (.int p4), .val (.int p5), .val (.int p6), .val (.int d6), .val (.int (p4 &&& (65535 : Int32))), .val (.int (p1 &&& (7 : Int32))), .val (.ref b820), .val (.ref le0), .val (.ref b813)]) (pc' := 281) C827 X868 at_279 rfl rfl rfl ?_
                      refine Go.goto (pc' := 305) C827 X868 at_281 (by decide) (by decide) ?_
                      refine Go.aload (pc' := 307) C827 X868 at_305 rfl rfl rfl ?_
                      have ne870 : tle ≠ b820 := Nat.ne_of_lt (Nat.lt_of_lt_of_le (Nat.lt_of_lt_of_le le_0.lt O0.1) (Nat.le_trans (Nat.le_trans (Nat.le_trans (Nat.le_refl _) E813.1) (Nat.le_of_eq W816.size.symm)) (Nat.le_of_eq g820.symm)))
                      have ne871 : tda ≠ b820 := Nat.ne_of_lt (Nat.lt_of_lt_of_le (Nat.lt_of_lt_of_le da_0.lt O0.1) (Nat.le_trans (Nat.le_trans (Nat.le_trans (Nat.le_refl _) E813.1) (Nat.le_of_eq W816.size.symm)) (Nat.le_of_eq g820.symm)))
                      refine Go.callS (y := mN0) (pc' := 310) C827 X868 (tw hw 51 rfl) (tw hw 52 rfl) (by decide) (rm_nmLle l Z a0 hw va vk le0 tle lev lek da0 tda dav dak b820 cP v_823 kv_823 ([(p4 &&& (65535 : Int32))]) h827 O840 SV Ev Av Tle le_0 le_1 le_2 le_3 Tda da_0 da_1 da_2 da_3 c836 c837 c838 c839 SC hP ne870 ne871 (by rw [hlen]; decide) (own_ifn hc273_841)) (tw hw 53 rfl) (tw hw 49 rfl) e868 (argsL := [(.ref b820)]) (rest := []) (W := 0) rfl rfl pd_13 rfl (Nat.le_of_eq rfl) rfl (by decide) (by decide) (by decide) (by decide) at_307 rfl ?_
                      intro T869 v869 L869 X869 q869
                      obtain ⟨rfl, N869q, K869⟩ := q869
                      have N869 := Fr.app N835 N869q
                      have Hr872 := CHr.trans Hr830 (CHr.keep K869 all0 Hr830.1)
                      refine Go.aload (pc' := 312) C827 X869 at_310 rfl rfl rfl ?_
                      refine Go.acmpNo (pc' := 315) C827 X869 at_312 rfl rfl (XT.aa_ne_f rfl) rfl ?_
                      refine Go.iconst (z := (1 : Int32)) (pc' := 316) C827 X869 at_315 rfl rfl ?_
                      refine Go.goto (pc' := 320) C827 X869 at_316 (by decide) (by decide) ?_
                      have K873 : Keep h0 T869.heap [] := (((((((Keep.refl h0 []).ext E813).wr W816 (Or.inr z_b813)).ext E820).trans K823 (allS (Or.inr z_b820) all0)).ext E827).trans K869 all0)
                      have Si874 : Sin s sC827 T869.heap := Sin.mono Si827 (Nat.le_trans (Nat.le_refl _) K869.1)
                      exact Go.retNH C827 X869 Si874 (EWc hw) Hr872 rfl at_320 (by simp) ⟨rfl, N869, K873⟩ (by decide) (by decide)
                  · have c876 : AL Z h820 b813 k813 .char [(.int (p4 &&& (65535 : Int32)))] := (AL.ext E820 A816)
                    have O877 : Ext Z.heap h820 := (Ext.trans O821 E820)
                    refine Go.callI (y := mN8) (a := b820) (pc' := 264) C X820 rfl (tw hw 9 rfl) (tw hw 10 rfl) (by decide) (rm_sU1 l Z a0 hw b820 b813 k813 ([(p4 &&& (65535 : Int32))]) j xj cP h820 O877 A820 F820_value F820_coder (show AL Z h820 b813 k813 .char (ch16 [(p4 &&& (65535 : Int32))]) from c876) SC SH SLo SAd (by rw [hlen]; decide) hj hx hx2 hb hP n_b820) (tw hw 11 rfl) (tw hw 3 rfl) e820 (argsL := [(.ref b813)]) (rest := [(.ref b820)]) (W := 1) rfl rfl pd_12 rfl (Nat.le_of_eq rfl) rfl (by decide) (by decide) (by decide) (by decide) rfl at_261 rfl ?_
                    intro T875 v875 L875 X875 q875
                    obtain ⟨v_875, kv_875, ys_875, rfl, N875q, K875, B875_0, P875_0, P875_1, P875_2⟩ := q875
                    have N875 := Fr.app N816 N875q
                    have Hr878 := CHr.trans Hr822 (CHr.keep K875 (allS s_b820 all0) Hr822.1)
                    have n_v_875 : Z.heap.size ≤ v_875 := Nat.le_trans O877.1 B875_0
                    have z_v_875 : h0.size ≤ v_875 := Nat.le_trans (Nat.le_trans (Nat.le_trans (Nat.le_trans (Nat.le_refl _) E813.1) (Nat.le_of_eq W816.size.symm)) E820.1) B875_0
                    have s_v_875 : Safe Z consts_1 s.vm T875.heap v_875 := Safe.keep K875 (allS s_b820 all0) Hr822.1 (Safe.new B875_0)
                    refine Go.astore (Ls' := #[.val (.int p1), .val (.int p2), .val (.int p3), .val (.int p4), .val (.int p5), .val (.int p6), .val (.int d6), .val (.int (p4 &&& (65535 : Int32))), .val (.int (p1 &&& (7 : Int32))), .val (.ref b820), .val (.int (1 : Int32)), .val (.ref b813)]) (pc' := 266) C X875 at_264 rfl rfl rfl ?_
                    have O880 : Ext Z.heap T875.heap := (Ext.keep O877 K875 (allS n_b820 all0))
                    have Si881 : Sin s s T875.heap := Sin.mono Si0 (Nat.le_trans (Nat.le_trans (Nat.le_trans (Nat.le_trans (Nat.le_refl _) E813.1) (Nat.le_of_eq W816.size.symm)) E820.1) K875.1)
                    refine Go.ldcH (pc' := 268) (n := 60) (vs := [(.int (108 : Int32)), (.int (97 : Int32)), (.int (119 : Int32)), (.int (45 : Int32)), (.int (101 : Int32)), (.int (110 : Int32)), (.int (102 : Int32)), (.int (111 : Int32)), (.int (114 : Int32)), (.int (99 : Int32)), (.int (101 : Int32)), (.int (109 : Int32)), (.int (101 : Int32)), (.int (110 : Int32)), (.int (116 : Int32))]) (z := (15 : Int32)) C X875 Si881 (EWc hw) Hr878.1 (tw hw 35 rfl) (wS hw) rfl (by decide) (by decide) (by decide) (by decide) (by decide) (by decide) (by decide) (by decide) at_266 rfl ?_
                    intro T879 h879 b879 sC879 v879 k879 C879 X879 e879 Si879 E879 hR879 A879 F879c F879v B879 hne879
                    have Hr882 := CHr.trans Hr878 hR879
                    have c883 : Exa Z h879 b813 "[C" := (Exa.ext E879 (Exa.keep (Exa.ext E820 (Exa.wr W816 Ea813)) K875))
                    have hx879_b813 := hne879 b813 (Safe.exa C879.2.1.alike c883 (by decide) (by decide))
                    have sa884 : Safe Z consts_1 sC879.vm h879 b820 := (CHr.safe hR879 (Nat.lt_of_lt_of_le A820.lt (Nat.le_trans (Nat.le_refl _) K875.1)) (Safe.keep K875 (allS s_b820 all0) Hr822.1 s_b820))
                    have hx879_b820 := hne879 b820 sa884
                    have sa885 : Safe Z consts_1 sC879.vm h879 v_875 := (CHr.safe hR879 (Nat.lt_of_lt_of_le P875_2.lt (Nat.le_refl _)) s_v_875)
                    have hx879_v_875 := hne879 v_875 sa885
                    have tx886 : AL Z h879 v879 k879 .byte (by8 leL) := leV ▸ B879
                    refine Go.aload (pc' := 270) C879 X879 at_268 rfl rfl rfl ?_
                    have c888 : Exa Z h879 b820 "java/lang/String" := (Exa.ext E879 (Exa.keep A820 K875))
                    have c889 : Fld Z h879 b820 "java/lang/String" "coder" "B" (.int (1 : Int32)) := (Fld.ext E879 P875_1)
                    have O890 : Ext Z.heap h879 := (Ext.trans O880 E879)
                    refine Go.callV (y := mN10) (z := mN10) (a := b879) (pc' := 273) C879 X879 (tw hw 38 rfl) (tw hw 39 rfl) (notFace_at C879.2.1 (tw hw 41 rfl)) (tw hw 41 rfl) (tw hw 40 rfl) A879 (by decide) (rm_eqC l Z a0 hw b879 b820 cP h879 O890 SC A879 F879c c888 c889 (Ne.symm hx879_b820.1) hP) (tw hw 42 rfl) (tw hw 3 rfl) e879 (argsL := [(.ref b820)]) (rest := []) (W := 0) rfl rfl pd_10 rfl (Nat.le_of_eq rfl) rfl (by decide) (by decide) (by decide) (by decide) at_270 rfl ?_
                    intro T887 v887 L887 X887 q887
                    obtain ⟨rfl, rfl, e887⟩ := q887
                    have N887 := Fr.app N875 (Fr.nil _)
                    refine Go.ifYes (pc' := 284) C879 X887 at_273 ((if0 _ _).trans (teq (x := (0 : Int32)) (y := (0 : Int32)) (by decide)).1) (by decide) (by decide) ?_
                    refine Go.ldcH (pc' := 286) (n := 68) (vs := [(.int (100 : Int32)), (.int (105 : Int32)), (.int (115 : Int32)), (.int (116 : Int32)), (.int (114 : Int32)), (.int (105 : Int32)), (.int (99 : Int32)), (.int (116 : Int32)), (.int (45 : Int32)), (.int (97 : Int32)), (.int (116 : Int32)), (.int (116 : Int32)), (.int (111 : Int32)), (.int (114 : Int32)), (.int (110 : Int32)), (.int (101 : Int32)), (.int (121 : Int32))]) (z := (17 : Int32)) C879 X887 Si879 (EWc hw) Hr882.1 (tw hw 76 rfl) (wS hw) e887 (by decide) (by decide) (by decide) (by decide) (by decide) (by decide) (by decide) (by decide) at_284 rfl ?_
                    intro T892 h892 b892 sC892 v892 k892 C892 X892 e892 Si892 E892 hR892 A892 F892c F892v B892 hne892
                    have Hr893 := CHr.trans Hr882 hR892
                    have c894 : Exa Z h892 b813 "[C" := (Exa.ext E892 c883)
                    have hx892_b813 := hne892 b813 (Safe.exa C892.2.1.alike c894 (by decide) (by decide))
                    have sa895 : Safe Z consts_1 sC892.vm h892 b820 := (CHr.safe hR892 (Nat.lt_of_lt_of_le A820.lt (Nat.le_trans (Nat.le_trans (Nat.le_refl _) K875.1) E879.1)) sa884)
                    have hx892_b820 := hne892 b820 sa895
                    have sa896 : Safe Z consts_1 sC892.vm h892 v_875 := (CHr.safe hR892 (Nat.lt_of_lt_of_le P875_2.lt (Nat.le_trans (Nat.le_refl _) E879.1)) sa885)
                    have hx892_v_875 := hne892 v_875 sa896
                    have tx897 : AL Z h892 v892 k892 .byte (by8 daL) := daV ▸ B892
                    refine Go.aload (pc' := 288) C892 X892 at_286 rfl rfl rfl ?_
                    have c899 : Exa Z h892 b820 "java/lang/String" := (Exa.ext E892 c888)
                    have c900 : Fld Z h892 b820 "java/lang/String" "coder" "B" (.int (1 : Int32)) := (Fld.ext E892 c889)
                    have O901 : Ext Z.heap h892 := (Ext.trans O890 E892)
                    refine Go.callV (y := mN10) (z := mN10) (a := b892) (pc' := 291) C892 X892 (tw hw 38 rfl) (tw hw 39 rfl) (notFace_at C892.2.1 (tw hw 41 rfl)) (tw hw 41 rfl) (tw hw 40 rfl) A892 (by decide) (rm_eqC l Z a0 hw b892 b820 cP h892 O901 SC A892 F892c c899 c900 (Ne.symm hx892_b820.1) hP) (tw hw 42 rfl) (tw hw 3 rfl) e892 (argsL := [(.ref b820)]) (rest := []) (W := 0) rfl rfl pd_10 rfl (Nat.le_of_eq rfl) rfl (by decide) (by decide) (by decide) (by decide) at_288 rfl ?_
                    intro T898 v898 L898 X898 q898
                    obtain ⟨rfl, rfl, e898⟩ := q898
                    have N898 := Fr.app N887 (Fr.nil _)
                    refine Go.ifYes (pc' := 302) C892 X898 at_291 ((if0 _ _).trans (teq (x := (0 : Int32)) (y := (0 : Int32)) (by decide)).1) (by decide) (by decide) ?_
                    refine Go.aconstNull (pc' := 303) C892 X898 at_302 rfl ?_
                    refine Go.astore (Ls' := #[.val (.int p1), .val (.int p2), .val (.int p3), .val (.int p4), .val (.int p5), .val (.int p6), .val (.int d6), .val (.int (p4 &&& (65535 : Int32))), .val (.int (p1 &&& (7 : Int32))), .val (.ref b820), .val .null, .val (.ref b813)]) (pc' := 305) C892 X898 at_303 rfl rfl rfl ?_
                    refine Go.aload (pc' := 307) C892 X898 at_305 rfl rfl rfl ?_
                    have ne904 : tle ≠ b820 := Nat.ne_of_lt (Nat.lt_of_lt_of_le (Nat.lt_of_lt_of_le le_0.lt O0.1) (Nat.le_trans (Nat.le_trans (Nat.le_trans (Nat.le_refl _) E813.1) (Nat.le_of_eq W816.size.symm)) (Nat.le_of_eq g820.symm)))
                    have ne905 : tda ≠ b820 := Nat.ne_of_lt (Nat.lt_of_lt_of_le (Nat.lt_of_lt_of_le da_0.lt O0.1) (Nat.le_trans (Nat.le_trans (Nat.le_trans (Nat.le_refl _) E813.1) (Nat.le_of_eq W816.size.symm)) (Nat.le_of_eq g820.symm)))
                    refine Go.callS (y := mN0) (pc' := 310) C892 X898 (tw hw 51 rfl) (tw hw 52 rfl) (by decide) (rm_nmUno l Z a0 hw va vk le0 tle lev lek da0 tda dav dak b820 cP h892 O901 SV Ev Av Tle le_0 le_1 le_2 le_3 Tda da_0 da_1 da_2 da_3 c899 c900 SC hP ne904 ne905) (tw hw 53 rfl) (tw hw 49 rfl) e898 (argsL := [(.ref b820)]) (rest := []) (W := 0) rfl rfl pd_13 rfl (Nat.le_of_eq rfl) rfl (by decide) (by decide) (by decide) (by decide) at_307 rfl ?_
                    intro T903 v903 L903 X903 q903
                    obtain ⟨rfl, N903q, K903⟩ := q903
                    have N903 := Fr.app N898 N903q
                    have Hr906 := CHr.trans Hr893 (CHr.keep K903 all0 Hr893.1)
                    refine Go.aload (pc' := 312) C892 X903 at_310 rfl rfl rfl ?_
                    refine Go.acmpNo (pc' := 315) C892 X903 at_312 rfl rfl (XT.aa_ne_f rfl) rfl ?_
                    refine Go.iconst (z := (1 : Int32)) (pc' := 316) C892 X903 at_315 rfl rfl ?_
                    refine Go.goto (pc' := 320) C892 X903 at_316 (by decide) (by decide) ?_
                    have K907 : Keep h0 T903.heap [] := ((((((((Keep.refl h0 []).ext E813).wr W816 (Or.inr z_b813)).ext E820).trans K875 (allS (Or.inr z_b820) all0)).ext E879).ext E892).trans K903 all0)
                    have Si908 : Sin s sC892 T903.heap := Sin.mono Si892 (Nat.le_trans (Nat.le_refl _) K903.1)
                    exact Go.retNH C892 X903 Si908 (EWc hw) Hr906 rfl at_320 (by simp) ⟨rfl, N903, K907⟩ (by decide) (by decide)
                · rw [hl3]
                  refine Go.iload (pc' := 208) C X101 at_206 rfl rfl ?_
                  refine Go.newP (aty := .char) (cap := 2) (vs := [(.int (0 : Int32)), (.int (0 : Int32))]) (ad := "[C") (pc' := 210) C X101 (by decide) (tw hw 8 rfl) e101 (by decide) (by decide) (by decide) (by decide) (by decide) rfl at_208 rfl ?_
                  intro T909 h909 b909 k909 X909 e909 g909 E909 A909 Ea909
                  have Hr910 := CHr.trans Hr0 (CHr.ext E909 Hr0.1)
                  have n_b909 : Z.heap.size ≤ b909 := Nat.le_trans O0.1 (Nat.le_of_eq g909.symm)
                  have z_b909 : h0.size ≤ b909 := Nat.le_trans (Nat.le_refl _) (Nat.le_of_eq g909.symm)
                  have s_b909 : Safe Z consts_1 s.vm h909 b909 := Safe.ext E909 Hr0.1 (Safe.new (Nat.le_of_eq g909.symm))
                  have A909 : AL Z h909 b909 k909 .char [(.int (0 : Int32)), (.int (0 : Int32))] := A909
                  refine Go.astore (Ls' := #[.val (.int p1), .val (.int p2), .val (.int p3), .val (.int p4), .val (.int p5), .val (.int p6), .val (.int d6), .val (.int (p4 &&& (65535 : Int32))), .val (.int (p1 &&& (7 : Int32))), .unset, .val (.int (2 : Int32)), .val (.ref b909)]) (pc' := 212) C X909 at_210 rfl rfl rfl ?_
                  refine Go.iload (pc' := 214) C X909 at_212 rfl rfl ?_
                  refine Go.ifNo (pc' := 217) C X909 at_214 ((if0 _ _).trans (tlt (x := (0 : Int32)) (y := (2 : Int32)) (by decide)).2.2.2) rfl ?_
                  refine Go.aload (pc' := 219) C X909 at_217 rfl rfl rfl ?_
                  refine Go.iconst (z := (0 : Int32)) (pc' := 220) C X909 at_219 rfl rfl ?_
                  refine Go.iload (pc' := 222) C X909 at_220 rfl rfl ?_
                  refine Go.stC (i := 0) (x' := (p4 &&& (65535 : Int32))) (vs' := [(.int (p4 &&& (65535 : Int32))), (.int (0 : Int32))]) (pc' := 223) C X909 e909 A909 (by decide) (by decide) (by simp) (n16 _) rfl at_222 rfl ?_
                  intro T912 h912 X912 e912 W912 A912
                  have Hr913 := CHr.trans Hr910 (CHr.wr W912 (Safe.exa C.2.1.alike Ea909 (by decide) (by decide)) Hr910.1)
                  have N912 := Fr.snoc X912 N101 n_b909
                  refine Go.iload (pc' := 225) C X912 at_223 rfl rfl ?_
                  refine Go.iconst (z := (1 : Int32)) (pc' := 226) C X912 at_225 rfl rfl ?_
                  refine Go.icmpNo (pc' := 229) C X912 at_226 (tlt (x := (1 : Int32)) (y := (2 : Int32)) (by decide)).2.2.2 rfl ?_
                  refine Go.aload (pc' := 231) C X912 at_229 rfl rfl rfl ?_
                  refine Go.iconst (z := (1 : Int32)) (pc' := 232) C X912 at_231 rfl rfl ?_
                  refine Go.iload (pc' := 234) C X912 at_232 rfl rfl ?_
                  refine Go.ldcI (pc' := 236) C X912 at_234 (tw hw 0 rfl) rfl ?_
                  refine Go.iand (pc' := 237) C X912 at_236 rfl ?_
                  refine Go.i2c (pc' := 238) C X912 at_237 rfl ?_
                  refine Go.stC (i := 1) (x' := (p5 &&& (65535 : Int32))) (vs' := [(.int (p4 &&& (65535 : Int32))), (.int (p5 &&& (65535 : Int32)))]) (pc' := 239) C X912 e912 A912 (by decide) (by decide) (by simp) (n16b _) rfl at_238 rfl ?_
                  intro T915 h915 X915 e915 W915 A915
                  have c917 : Exa Z h912 b909 "[C" := (Exa.wr W912 Ea909)
                  have Hr916 := CHr.trans Hr913 (CHr.wr W915 (Safe.exa C.2.1.alike c917 (by decide) (by decide)) Hr913.1)
                  have N915 := Fr.snoc X915 N912 n_b909
                  refine Go.iload (pc' := 241) C X915 at_239 rfl rfl ?_
                  refine Go.iconst (z := (2 : Int32)) (pc' := 242) C X915 at_241 rfl rfl ?_
                  refine Go.icmpYes (pc' := 255) C X915 at_242 (flt (x := (2 : Int32)) (y := (2 : Int32)) (by decide)).2.2.2 (by decide) (by decide) ?_
                  have O920 : Ext Z.heap h915 := (Ext.wr (Ext.wr (Ext.trans O0 E909) W912 n_b909) W915 n_b909)
                  refine Go.newO (pc' := 258) C X915 (tw hw 1 rfl) (tw hw 2 rfl) (tw hw 3 rfl) e915 (by decide) (by decide) at_255 rfl ?_
                  intro T919 h919 b919 X919 e919 g919 E919 A919 D919
                  have Hr921 := CHr.trans Hr916 (CHr.ext E919 Hr916.1)
                  have n_b919 : Z.heap.size ≤ b919 := Nat.le_trans O920.1 (Nat.le_of_eq g919.symm)
                  have z_b919 : h0.size ≤ b919 := Nat.le_trans (Nat.le_trans (Nat.le_trans (Nat.le_trans (Nat.le_refl _) E909.1) (Nat.le_of_eq W912.size.symm)) (Nat.le_of_eq W915.size.symm)) (Nat.le_of_eq g919.symm)
                  have s_b919 : Safe Z consts_1 s.vm h919 b919 := Safe.ext E919 Hr916.1 (Safe.new (Nat.le_of_eq g919.symm))
                  have F919_coder : Fld Z h919 b919 "java/lang/String" "coder" "B" (.int (0 : Int32)) := D919 (Or.inr (tw hw 32 rfl)) (ty := .byte) (by decide)
                  have F919_value : Fld Z h919 b919 "java/lang/String" "value" "[B" .null := D919 (Or.inr (tw hw 34 rfl)) (ty := (.array .byte)) (by decide)
                  refine Go.dup (pc' := 259) C X919 at_258 rfl rfl ?_
                  refine Go.aload (pc' := 261) C X919 at_259 rfl rfl rfl ?_
                  have hlen : [(p4 &&& (65535 : Int32)), (p5 &&& (65535 : Int32))].length = 2 := by rfl
                  rcases split16 [(p4 &&& (65535 : Int32)), (p5 &&& (65535 : Int32))] (by intro x hx; simp only [List.mem_cons, List.not_mem_nil, or_false] at hx; rcases hx with rfl | rfl <;> exact m16 _) with hAll | ⟨j, xj, hj, hx, hx2, hb⟩
                  · have c923 : AL Z h919 b909 k909 .char [(.int (p4 &&& (65535 : Int32))), (.int (p5 &&& (65535 : Int32)))] := (AL.ext E919 A915)
                    have O924 : Ext Z.heap h919 := (Ext.trans O920 E919)
                    refine Go.callI (y := mN8) (a := b919) (pc' := 264) C X919 rfl (tw hw 9 rfl) (tw hw 10 rfl) (by decide) (rm_sI1 l Z a0 hw b919 b909 k909 ([(p4 &&& (65535 : Int32)), (p5 &&& (65535 : Int32))]) cP h919 O924 A919 F919_value F919_coder (show AL Z h919 b909 k909 .char (ch16 [(p4 &&& (65535 : Int32)), (p5 &&& (65535 : Int32))]) from c923) SC hAll (by rw [hlen]; decide) (by rw [hlen]; decide) (by rw [hlen]; decide) hP n_b919) (tw hw 11 rfl) (tw hw 3 rfl) e919 (argsL := [(.ref b909)]) (rest := [(.ref b919)]) (W := 1) rfl rfl pd_12 rfl (Nat.le_of_eq rfl) rfl (by decide) (by decide) (by decide) (by decide) rfl at_261 rfl ?_
                    intro T922 v922 L922 X922 q922
                    obtain ⟨v_922, kv_922, rfl, N922q, K922, B922_0, P922_0, P922_1, P922_2⟩ := q922
                    have N922 := Fr.app N915 N922q
                    have Hr925 := CHr.trans Hr921 (CHr.keep K922 (allS s_b919 all0) Hr921.1)
                    have n_v_922 : Z.heap.size ≤ v_922 := Nat.le_trans O924.1 B922_0
                    have z_v_922 : h0.size ≤ v_922 := Nat.le_trans (Nat.le_trans (Nat.le_trans (Nat.le_trans (Nat.le_trans (Nat.le_refl _) E909.1) (Nat.le_of_eq W912.size.symm)) (Nat.le_of_eq W915.size.symm)) E919.1) B922_0
                    have s_v_922 : Safe Z consts_1 s.vm T922.heap v_922 := Safe.keep K922 (allS s_b919 all0) Hr921.1 (Safe.new B922_0)
                    refine Go.astore (Ls' := #[.val (.int p1), .val (.int p2), .val (.int p3), .val (.int p4), .val (.int p5), .val (.int p6), .val (.int d6), .val (.int (p4 &&& (65535 : Int32))), .val (.int (p1 &&& (7 : Int32))), .val (.ref b919), .val (.int (2 : Int32)), .val (.ref b909)]) (pc' := 266) C X922 at_264 rfl rfl rfl ?_
                    have O927 : Ext Z.heap T922.heap := (Ext.keep O924 K922 (allS n_b919 all0))
                    have Si928 : Sin s s T922.heap := Sin.mono Si0 (Nat.le_trans (Nat.le_trans (Nat.le_trans (Nat.le_trans (Nat.le_trans (Nat.le_refl _) E909.1) (Nat.le_of_eq W912.size.symm)) (Nat.le_of_eq W915.size.symm)) E919.1) K922.1)
                    refine Go.ldcH (pc' := 268) (n := 60) (vs := [(.int (108 : Int32)), (.int (97 : Int32)), (.int (119 : Int32)), (.int (45 : Int32)), (.int (101 : Int32)), (.int (110 : Int32)), (.int (102 : Int32)), (.int (111 : Int32)), (.int (114 : Int32)), (.int (99 : Int32)), (.int (101 : Int32)), (.int (109 : Int32)), (.int (101 : Int32)), (.int (110 : Int32)), (.int (116 : Int32))]) (z := (15 : Int32)) C X922 Si928 (EWc hw) Hr925.1 (tw hw 35 rfl) (wS hw) rfl (by decide) (by decide) (by decide) (by decide) (by decide) (by decide) (by decide) (by decide) at_266 rfl ?_
                    intro T926 h926 b926 sC926 v926 k926 C926 X926 e926 Si926 E926 hR926 A926 F926c F926v B926 hne926
                    have Hr929 := CHr.trans Hr925 hR926
                    have c930 : Exa Z h926 b909 "[C" := (Exa.ext E926 (Exa.keep (Exa.ext E919 (Exa.wr W915 c917)) K922))
                    have hx926_b909 := hne926 b909 (Safe.exa C926.2.1.alike c930 (by decide) (by decide))
                    have sa931 : Safe Z consts_1 sC926.vm h926 b919 := (CHr.safe hR926 (Nat.lt_of_lt_of_le A919.lt (Nat.le_trans (Nat.le_refl _) K922.1)) (Safe.keep K922 (allS s_b919 all0) Hr921.1 s_b919))
                    have hx926_b919 := hne926 b919 sa931
                    have sa932 : Safe Z consts_1 sC926.vm h926 v_922 := (CHr.safe hR926 (Nat.lt_of_lt_of_le P922_2.lt (Nat.le_refl _)) s_v_922)
                    have hx926_v_922 := hne926 v_922 sa932
                    have tx933 : AL Z h926 v926 k926 .byte (by8 leL) := leV ▸ B926
                    refine Go.aload (pc' := 270) C926 X926 at_268 rfl rfl rfl ?_
                    have c935 : Exa Z h926 b919 "java/lang/String" := (Exa.ext E926 (Exa.keep A919 K922))
                    have c936 : Fld Z h926 b919 "java/lang/String" "value" "[B" (.ref v_922) := (Fld.ext E926 P922_0)
                    have c937 : Fld Z h926 b919 "java/lang/String" "coder" "B" (.int (0 : Int32)) := (Fld.ext E926 P922_1)
                    have c938 : AL Z h926 v_922 kv_922 .byte (by8 [(p4 &&& (65535 : Int32)), (p5 &&& (65535 : Int32))]) := (AL.ext E926 P922_2)
                    have O939 : Ext Z.heap h926 := (Ext.trans O927 E926)
                    refine Go.callV (y := mN10) (z := mN10) (a := b926) (pc' := 273) C926 X926 (tw hw 38 rfl) (tw hw 39 rfl) (notFace_at C926.2.1 (tw hw 41 rfl)) (tw hw 41 rfl) (tw hw 40 rfl) A926 (by decide) (rm_eqS l Z a0 hw b926 b919 v926 v_922 k926 kv_922 leL ([(p4 &&& (65535 : Int32)), (p5 &&& (65535 : Int32))]) cP h926 O939 SC A926 F926v F926c tx933 c935 c936 c937 c938 (Ne.symm hx926_b919.1) hP (by decide) (by rw [hlen]; decide)) (tw hw 42 rfl) (tw hw 3 rfl) e926 (argsL := [(.ref b919)]) (rest := []) (W := 0) rfl rfl pd_10 rfl (Nat.le_of_eq rfl) rfl (by decide) (by decide) (by decide) (by decide) at_270 rfl ?_
                    intro T934 v934 L934 X934 q934
                    obtain ⟨rfl, rfl, e934⟩ := q934
                    have N934 := Fr.app N922 (Fr.nil _)
                    by_cases hc273_940 : (if by8 leL = by8 [(p4 &&& (65535 : Int32)), (p5 &&& (65535 : Int32))] then (1 : Int32) else 0) = (0 : Int32)
                    · refine Go.ifYes (pc' := 284) C926 X934 at_273 ((if0 _ _).trans (teq (x := (if by8 leL = by8 [(p4 &&& (65535 : Int32)), (p5 &&& (65535 : Int32))] then (1 : Int32) else 0)) (y := (0 : Int32)) hc273_940).1) (by decide) (by decide) ?_
                      refine Go.ldcH (pc' := 286) (n := 68) (vs := [(.int (100 : Int32)), (.int (105 : Int32)), (.int (115 : Int32)), (.int (116 : Int32)), (.int (114 : Int32)), (.int (105 : Int32)), (.int (99 : Int32)), (.int (116 : Int32)), (.int (45 : Int32)), (.int (97 : Int32)), (.int (116 : Int32)), (.int (116 : Int32)), (.int (111 : Int32)), (.int (114 : Int32)), (.int (110 : Int32)), (.int (101 : Int32)), (.int (121 : Int32))]) (z := (17 : Int32)) C926 X934 Si926 (EWc hw) Hr929.1 (tw hw 76 rfl) (wS hw) e934 (by decide) (by decide) (by decide) (by decide) (by decide) (by decide) (by decide) (by decide) at_284 rfl ?_
                      intro T941 h941 b941 sC941 v941 k941 C941 X941 e941 Si941 E941 hR941 A941 F941c F941v B941 hne941
                      have Hr942 := CHr.trans Hr929 hR941
                      have c943 : Exa Z h941 b909 "[C" := (Exa.ext E941 c930)
                      have hx941_b909 := hne941 b909 (Safe.exa C941.2.1.alike c943 (by decide) (by decide))
                      have sa944 : Safe Z consts_1 sC941.vm h941 b919 := (CHr.safe hR941 (Nat.lt_of_lt_of_le A919.lt (Nat.le_trans (Nat.le_trans (Nat.le_refl _) K922.1) E926.1)) sa931)
                      have hx941_b919 := hne941 b919 sa944
                      have sa945 : Safe Z consts_1 sC941.vm h941 v_922 := (CHr.safe hR941 (Nat.lt_of_lt_of_le P922_2.lt (Nat.le_trans (Nat.le_refl _) E926.1)) sa932)
                      have hx941_v_922 := hne941 v_922 sa945
                      have tx946 : AL Z h941 v941 k941 .byte (by8 daL) := daV ▸ B941
                      refine Go.aload (pc' := 288) C941 X941 at_286 rfl rfl rfl ?_
                      have c948 : Exa Z h941 b919 "java/lang/String" := (Exa.ext E941 c935)
                      have c949 : Fld Z h941 b919 "java/lang/String" "value" "[B" (.ref v_922) := (Fld.ext E941 c936)
                      have c950 : Fld Z h941 b919 "java/lang/String" "coder" "B" (.int (0 : Int32)) := (Fld.ext E941 c937)
                      have c951 : AL Z h941 v_922 kv_922 .byte (by8 [(p4 &&& (65535 : Int32)), (p5 &&& (65535 : Int32))]) := (AL.ext E941 c938)
                      have O952 : Ext Z.heap h941 := (Ext.trans O939 E941)
                      refine Go.callV (y := mN10) (z := mN10) (a := b941) (pc' := 291) C941 X941 (tw hw 38 rfl) (tw hw 39 rfl) (notFace_at C941.2.1 (tw hw 41 rfl)) (tw hw 41 rfl) (tw hw 40 rfl) A941 (by decide) (rm_eqS l Z a0 hw b941 b919 v941 v_922 k941 kv_922 daL ([(p4 &&& (65535 : Int32)), (p5 &&& (65535 : Int32))]) cP h941 O952 SC A941 F941v F941c tx946 c948 c949 c950 c951 (Ne.symm hx941_b919.1) hP (by decide) (by rw [hlen]; decide)) (tw hw 42 rfl) (tw hw 3 rfl) e941 (argsL := [(.ref b919)]) (rest := []) (W := 0) rfl rfl pd_10 rfl (Nat.le_of_eq rfl) rfl (by decide) (by decide) (by decide) (by decide) at_288 rfl ?_
                      intro T947 v947 L947 X947 q947
                      obtain ⟨rfl, rfl, e947⟩ := q947
                      have N947 := Fr.app N934 (Fr.nil _)
                      by_cases hc291_953 : (if by8 daL = by8 [(p4 &&& (65535 : Int32)), (p5 &&& (65535 : Int32))] then (1 : Int32) else 0) = (0 : Int32)
                      · refine Go.ifYes (pc' := 302) C941 X947 at_291 ((if0 _ _).trans (teq (x := (if by8 daL = by8 [(p4 &&& (65535 : Int32)), (p5 &&& (65535 : Int32))] then (1 : Int32) else 0)) (y := (0 : Int32)) hc291_953).1) (by decide) (by decide) ?_
                        refine Go.aconstNull (pc' := 303) C941 X947 at_302 rfl ?_
                        refine Go.astore (Ls' := #[.val (.int p1), .val (.int p2), .val (.int p3), .val (.int p4), .val (.int p5), .val (.int p6), .val (.int d6), .val (.int (p4 &&& (65535 : Int32))), .val (.int (p1 &&& (7 : Int32))), .val (.ref b919), .val .null, .val (.ref b909)]) (pc' := 305) C941 X947 at_303 rfl rfl rfl ?_
                        refine Go.aload (pc' := 307) C941 X947 at_305 rfl rfl rfl ?_
                        have ne955 : tle ≠ b919 := Nat.ne_of_lt (Nat.lt_of_lt_of_le (Nat.lt_of_lt_of_le le_0.lt O0.1) (Nat.le_trans (Nat.le_trans (Nat.le_trans (Nat.le_trans (Nat.le_refl _) E909.1) (Nat.le_of_eq W912.size.symm)) (Nat.le_of_eq W915.size.symm)) (Nat.le_of_eq g919.symm)))
                        have ne956 : tda ≠ b919 := Nat.ne_of_lt (Nat.lt_of_lt_of_le (Nat.lt_of_lt_of_le da_0.lt O0.1) (Nat.le_trans (Nat.le_trans (Nat.le_trans (Nat.le_trans (Nat.le_refl _) E909.1) (Nat.le_of_eq W912.size.symm)) (Nat.le_of_eq W915.size.symm)) (Nat.le_of_eq g919.symm)))
                        refine Go.callS (y := mN0) (pc' := 310) C941 X947 (tw hw 51 rfl) (tw hw 52 rfl) (by decide) (rm_nmLno l Z a0 hw va vk le0 tle lev lek da0 tda dav dak b919 cP v_922 kv_922 ([(p4 &&& (65535 : Int32)), (p5 &&& (65535 : Int32))]) h941 O952 SV Ev Av Tle le_0 le_1 le_2 le_3 Tda da_0 da_1 da_2 da_3 c948 c949 c950 c951 SC hP ne955 ne956 (by rw [hlen]; decide) (own_ifz hc273_940) (own_ifz hc291_953)) (tw hw 53 rfl) (tw hw 49 rfl) e947 (argsL := [(.ref b919)]) (rest := []) (W := 0) rfl rfl pd_13 rfl (Nat.le_of_eq rfl) rfl (by decide) (by decide) (by decide) (by decide) at_307 rfl ?_
                        intro T954 v954 L954 X954 q954
                        obtain ⟨rfl, N954q, K954⟩ := q954
                        have N954 := Fr.app N947 N954q
                        have Hr957 := CHr.trans Hr942 (CHr.keep K954 all0 Hr942.1)
                        refine Go.aload (pc' := 312) C941 X954 at_310 rfl rfl rfl ?_
                        refine Go.acmpNo (pc' := 315) C941 X954 at_312 rfl rfl (XT.aa_ne_f rfl) rfl ?_
                        refine Go.iconst (z := (1 : Int32)) (pc' := 316) C941 X954 at_315 rfl rfl ?_
                        refine Go.goto (pc' := 320) C941 X954 at_316 (by decide) (by decide) ?_
                        have K958 : Keep h0 T954.heap [] := (((((((((Keep.refl h0 []).ext E909).wr W912 (Or.inr z_b909)).wr W915 (Or.inr z_b909)).ext E919).trans K922 (allS (Or.inr z_b919) all0)).ext E926).ext E941).trans K954 all0)
                        have Si959 : Sin s sC941 T954.heap := Sin.mono Si941 (Nat.le_trans (Nat.le_refl _) K954.1)
                        exact Go.retNH C941 X954 Si959 (EWc hw) Hr957 rfl at_320 (by simp) ⟨rfl, N954, K958⟩ (by decide) (by decide)
                      · refine Go.ifNo (pc' := 294) C941 X947 at_291 ((if0 _ _).trans (feq (x := (if by8 daL = by8 [(p4 &&& (65535 : Int32)), (p5 &&& (65535 : Int32))] then (1 : Int32) else 0)) (y := (0 : Int32)) hc291_953).1) rfl ?_
                        refine Go.getS (pc' := 297) (host := "") C941 X947 (Or.inl (tw hw 110 rfl)) Via.refl e947 (Sda.ext O952) at_294 rfl ?_
                        intro T960 X960 e960
                        refine Go.astore (Ls' := #[.val (.int p1), .val (.int p2), .val (.int p3), .val (.int p4), .val (.int p5), .val (.int p6), .val (.int d6), .val (.int (p4 &&& (65535 : Int32))), .val (.int (p1 &&& (7 : Int32))), .val (.ref b919), .val (.ref da0), .val (.ref b909)]) (pc' := 299) C941 X960 at_297 rfl rfl rfl ?_
                        refine Go.goto (pc' := 305) C941 X960 at_299 (by decide) (by decide) ?_
                        refine Go.aload (pc' := 307) C941 X960 at_305 rfl rfl rfl ?_
                        have ne962 : tle ≠ b919 := Nat.ne_of_lt (Nat.lt_of_lt_of_le (Nat.lt_of_lt_of_le le_0.lt O0.1) (Nat.le_trans (Nat.le_trans (Nat.le_trans (Nat.le_trans (Nat.le_refl _) E909.1) (Nat.le_of_eq W912.size.symm)) (Nat.le_of_eq W915.size.symm)) (Nat.le_of_eq g919.symm)))
                        have ne963 : tda ≠ b919 := Nat.ne_of_lt (Nat.lt_of_lt_of_le (Nat.lt_of_lt_of_le da_0.lt O0.1) (Nat.le_trans (Nat.le_trans (Nat.le_trans (Nat.le_trans (Nat.le_refl _) E909.1) (Nat.le_of_eq W912.size.symm)) (Nat.le_of_eq W915.size.symm)) (Nat.le_of_eq g919.symm)))
                        refine Go.callS (y := mN0) (pc' := 310) C941 X960 (tw hw 51 rfl) (tw hw 52 rfl) (by decide) (rm_nmLda l Z a0 hw va vk le0 tle lev lek da0 tda dav dak b919 cP v_922 kv_922 ([(p4 &&& (65535 : Int32)), (p5 &&& (65535 : Int32))]) h941 O952 SV Ev Av Tle le_0 le_1 le_2 le_3 Tda da_0 da_1 da_2 da_3 c948 c949 c950 c951 SC hP ne962 ne963 (by rw [hlen]; decide) (own_ifz hc273_940) (own_ifn hc291_953)) (tw hw 53 rfl) (tw hw 49 rfl) e960 (argsL := [(.ref b919)]) (rest := []) (W := 0) rfl rfl pd_13 rfl (Nat.le_of_eq rfl) rfl (by decide) (by decide) (by decide) (by decide) at_307 rfl ?_
                        intro T961 v961 L961 X961 q961
                        obtain ⟨rfl, N961q, K961⟩ := q961
                        have N961 := Fr.app N947 N961q
                        have Hr964 := CHr.trans Hr942 (CHr.keep K961 all0 Hr942.1)
                        refine Go.aload (pc' := 312) C941 X961 at_310 rfl rfl rfl ?_
                        refine Go.acmpNo (pc' := 315) C941 X961 at_312 rfl rfl (XT.aa_ne_f rfl) rfl ?_
                        refine Go.iconst (z := (1 : Int32)) (pc' := 316) C941 X961 at_315 rfl rfl ?_
                        refine Go.goto (pc' := 320) C941 X961 at_316 (by decide) (by decide) ?_
                        have K965 : Keep h0 T961.heap [] := (((((((((Keep.refl h0 []).ext E909).wr W912 (Or.inr z_b909)).wr W915 (Or.inr z_b909)).ext E919).trans K922 (allS (Or.inr z_b919) all0)).ext E926).ext E941).trans K961 all0)
                        have Si966 : Sin s sC941 T961.heap := Sin.mono Si941 (Nat.le_trans (Nat.le_refl _) K961.1)
                        exact Go.retNH C941 X961 Si966 (EWc hw) Hr964 rfl at_320 (by simp) ⟨rfl, N961, K965⟩ (by decide) (by decide)
                    · refine Go.ifNo (pc' := 276) C926 X934 at_273 ((if0 _ _).trans (feq (x := (if by8 leL = by8 [(p4 &&& (65535 : Int32)), (p5 &&& (65535 : Int32))] then (1 : Int32) else 0)) (y := (0 : Int32)) hc273_940).1) rfl ?_
                      refine Go.getS (pc' := 279) (host := "") C926 X934 (Or.inl (tw hw 48 rfl)) Via.refl e934 (Sle.ext O939) at_276 rfl ?_
                      intro T967 X967 e967
                      refine Go.astore (Ls' := #[.val (.int p1), .val (.int p2), .val (.int p3), .val (.int p4), .val (.int p5), .val (.int p6), .val (.int d6), .val (.int (p4 &&& (65535 : Int32))), .val (.int (p1 &&& (7 : Int32))), .val (.ref b919), .val (.ref le0), .val (.ref b909)]) (pc' := 281) C926 X967 at_279 rfl rfl rfl ?_
                      refine Go.goto (pc' := 305) C926 X967 at_281 (by decide) (by decide) ?_
                      refine Go.aload (pc' := 307) C926 X967 at_305 rfl rfl rfl ?_
                      have ne969 : tle ≠ b919 := Nat.ne_of_lt (Nat.lt_of_lt_of_le (Nat.lt_of_lt_of_le le_0.lt O0.1) (Nat.le_trans (Nat.le_trans (Nat.le_trans (Nat.le_trans (Nat.le_refl _) E909.1) (Nat.le_of_eq W912.size.symm)) (Nat.le_of_eq W915.size.symm)) (Nat.le_of_eq g919.symm)))
                      have ne970 : tda ≠ b919 := Nat.ne_of_lt (Nat.lt_of_lt_of_le (Nat.lt_of_lt_of_le da_0.lt O0.1) (Nat.le_trans (Nat.le_trans (Nat.le_trans (Nat.le_trans (Nat.le_refl _) E909.1) (Nat.le_of_eq W912.size.symm)) (Nat.le_of_eq W915.size.symm)) (Nat.le_of_eq g919.symm)))
                      refine Go.callS (y := mN0) (pc' := 310) C926 X967 (tw hw 51 rfl) (tw hw 52 rfl) (by decide) (rm_nmLle l Z a0 hw va vk le0 tle lev lek da0 tda dav dak b919 cP v_922 kv_922 ([(p4 &&& (65535 : Int32)), (p5 &&& (65535 : Int32))]) h926 O939 SV Ev Av Tle le_0 le_1 le_2 le_3 Tda da_0 da_1 da_2 da_3 c935 c936 c937 c938 SC hP ne969 ne970 (by rw [hlen]; decide) (own_ifn hc273_940)) (tw hw 53 rfl) (tw hw 49 rfl) e967 (argsL := [(.ref b919)]) (rest := []) (W := 0) rfl rfl pd_13 rfl (Nat.le_of_eq rfl) rfl (by decide) (by decide) (by decide) (by decide) at_307 rfl ?_
                      intro T968 v968 L968 X968 q968
                      obtain ⟨rfl, N968q, K968⟩ := q968
                      have N968 := Fr.app N934 N968q
                      have Hr971 := CHr.trans Hr929 (CHr.keep K968 all0 Hr929.1)
                      refine Go.aload (pc' := 312) C926 X968 at_310 rfl rfl rfl ?_
                      refine Go.acmpNo (pc' := 315) C926 X968 at_312 rfl rfl (XT.aa_ne_f rfl) rfl ?_
                      refine Go.iconst (z := (1 : Int32)) (pc' := 316) C926 X968 at_315 rfl rfl ?_
                      refine Go.goto (pc' := 320) C926 X968 at_316 (by decide) (by decide) ?_
                      have K972 : Keep h0 T968.heap [] := ((((((((Keep.refl h0 []).ext E909).wr W912 (Or.inr z_b909)).wr W915 (Or.inr z_b909)).ext E919).trans K922 (allS (Or.inr z_b919) all0)).ext E926).trans K968 all0)
                      have Si973 : Sin s sC926 T968.heap := Sin.mono Si926 (Nat.le_trans (Nat.le_refl _) K968.1)
                      exact Go.retNH C926 X968 Si973 (EWc hw) Hr971 rfl at_320 (by simp) ⟨rfl, N968, K972⟩ (by decide) (by decide)
                  · have c975 : AL Z h919 b909 k909 .char [(.int (p4 &&& (65535 : Int32))), (.int (p5 &&& (65535 : Int32)))] := (AL.ext E919 A915)
                    have O976 : Ext Z.heap h919 := (Ext.trans O920 E919)
                    refine Go.callI (y := mN8) (a := b919) (pc' := 264) C X919 rfl (tw hw 9 rfl) (tw hw 10 rfl) (by decide) (rm_sU1 l Z a0 hw b919 b909 k909 ([(p4 &&& (65535 : Int32)), (p5 &&& (65535 : Int32))]) j xj cP h919 O976 A919 F919_value F919_coder (show AL Z h919 b909 k909 .char (ch16 [(p4 &&& (65535 : Int32)), (p5 &&& (65535 : Int32))]) from c975) SC SH SLo SAd (by rw [hlen]; decide) hj hx hx2 hb hP n_b919) (tw hw 11 rfl) (tw hw 3 rfl) e919 (argsL := [(.ref b909)]) (rest := [(.ref b919)]) (W := 1) rfl rfl pd_12 rfl (Nat.le_of_eq rfl) rfl (by decide) (by decide) (by decide) (by decide) rfl at_261 rfl ?_
                    intro T974 v974 L974 X974 q974
                    obtain ⟨v_974, kv_974, ys_974, rfl, N974q, K974, B974_0, P974_0, P974_1, P974_2⟩ := q974
                    have N974 := Fr.app N915 N974q
                    have Hr977 := CHr.trans Hr921 (CHr.keep K974 (allS s_b919 all0) Hr921.1)
                    have n_v_974 : Z.heap.size ≤ v_974 := Nat.le_trans O976.1 B974_0
                    have z_v_974 : h0.size ≤ v_974 := Nat.le_trans (Nat.le_trans (Nat.le_trans (Nat.le_trans (Nat.le_trans (Nat.le_refl _) E909.1) (Nat.le_of_eq W912.size.symm)) (Nat.le_of_eq W915.size.symm)) E919.1) B974_0
                    have s_v_974 : Safe Z consts_1 s.vm T974.heap v_974 := Safe.keep K974 (allS s_b919 all0) Hr921.1 (Safe.new B974_0)
                    refine Go.astore (Ls' := #[.val (.int p1), .val (.int p2), .val (.int p3), .val (.int p4), .val (.int p5), .val (.int p6), .val (.int d6), .val (.int (p4 &&& (65535 : Int32))), .val (.int (p1 &&& (7 : Int32))), .val (.ref b919), .val (.int (2 : Int32)), .val (.ref b909)]) (pc' := 266) C X974 at_264 rfl rfl rfl ?_
                    have O979 : Ext Z.heap T974.heap := (Ext.keep O976 K974 (allS n_b919 all0))
                    have Si980 : Sin s s T974.heap := Sin.mono Si0 (Nat.le_trans (Nat.le_trans (Nat.le_trans (Nat.le_trans (Nat.le_trans (Nat.le_refl _) E909.1) (Nat.le_of_eq W912.size.symm)) (Nat.le_of_eq W915.size.symm)) E919.1) K974.1)
                    refine Go.ldcH (pc' := 268) (n := 60) (vs := [(.int (108 : Int32)), (.int (97 : Int32)), (.int (119 : Int32)), (.int (45 : Int32)), (.int (101 : Int32)), (.int (110 : Int32)), (.int (102 : Int32)), (.int (111 : Int32)), (.int (114 : Int32)), (.int (99 : Int32)), (.int (101 : Int32)), (.int (109 : Int32)), (.int (101 : Int32)), (.int (110 : Int32)), (.int (116 : Int32))]) (z := (15 : Int32)) C X974 Si980 (EWc hw) Hr977.1 (tw hw 35 rfl) (wS hw) rfl (by decide) (by decide) (by decide) (by decide) (by decide) (by decide) (by decide) (by decide) at_266 rfl ?_
                    intro T978 h978 b978 sC978 v978 k978 C978 X978 e978 Si978 E978 hR978 A978 F978c F978v B978 hne978
                    have Hr981 := CHr.trans Hr977 hR978
                    have c982 : Exa Z h978 b909 "[C" := (Exa.ext E978 (Exa.keep (Exa.ext E919 (Exa.wr W915 c917)) K974))
                    have hx978_b909 := hne978 b909 (Safe.exa C978.2.1.alike c982 (by decide) (by decide))
                    have sa983 : Safe Z consts_1 sC978.vm h978 b919 := (CHr.safe hR978 (Nat.lt_of_lt_of_le A919.lt (Nat.le_trans (Nat.le_refl _) K974.1)) (Safe.keep K974 (allS s_b919 all0) Hr921.1 s_b919))
                    have hx978_b919 := hne978 b919 sa983
                    have sa984 : Safe Z consts_1 sC978.vm h978 v_974 := (CHr.safe hR978 (Nat.lt_of_lt_of_le P974_2.lt (Nat.le_refl _)) s_v_974)
                    have hx978_v_974 := hne978 v_974 sa984
                    have tx985 : AL Z h978 v978 k978 .byte (by8 leL) := leV ▸ B978
                    refine Go.aload (pc' := 270) C978 X978 at_268 rfl rfl rfl ?_
                    have c987 : Exa Z h978 b919 "java/lang/String" := (Exa.ext E978 (Exa.keep A919 K974))
                    have c988 : Fld Z h978 b919 "java/lang/String" "coder" "B" (.int (1 : Int32)) := (Fld.ext E978 P974_1)
                    have O989 : Ext Z.heap h978 := (Ext.trans O979 E978)
                    refine Go.callV (y := mN10) (z := mN10) (a := b978) (pc' := 273) C978 X978 (tw hw 38 rfl) (tw hw 39 rfl) (notFace_at C978.2.1 (tw hw 41 rfl)) (tw hw 41 rfl) (tw hw 40 rfl) A978 (by decide) (rm_eqC l Z a0 hw b978 b919 cP h978 O989 SC A978 F978c c987 c988 (Ne.symm hx978_b919.1) hP) (tw hw 42 rfl) (tw hw 3 rfl) e978 (argsL := [(.ref b919)]) (rest := []) (W := 0) rfl rfl pd_10 rfl (Nat.le_of_eq rfl) rfl (by decide) (by decide) (by decide) (by decide) at_270 rfl ?_
                    intro T986 v986 L986 X986 q986
                    obtain ⟨rfl, rfl, e986⟩ := q986
                    have N986 := Fr.app N974 (Fr.nil _)
                    refine Go.ifYes (pc' := 284) C978 X986 at_273 ((if0 _ _).trans (teq (x := (0 : Int32)) (y := (0 : Int32)) (by decide)).1) (by decide) (by decide) ?_
                    refine Go.ldcH (pc' := 286) (n := 68) (vs := [(.int (100 : Int32)), (.int (105 : Int32)), (.int (115 : Int32)), (.int (116 : Int32)), (.int (114 : Int32)), (.int (105 : Int32)), (.int (99 : Int32)), (.int (116 : Int32)), (.int (45 : Int32)), (.int (97 : Int32)), (.int (116 : Int32)), (.int (116 : Int32)), (.int (111 : Int32)), (.int (114 : Int32)), (.int (110 : Int32)), (.int (101 : Int32)), (.int (121 : Int32))]) (z := (17 : Int32)) C978 X986 Si978 (EWc hw) Hr981.1 (tw hw 76 rfl) (wS hw) e986 (by decide) (by decide) (by decide) (by decide) (by decide) (by decide) (by decide) (by decide) at_284 rfl ?_
                    intro T991 h991 b991 sC991 v991 k991 C991 X991 e991 Si991 E991 hR991 A991 F991c F991v B991 hne991
                    have Hr992 := CHr.trans Hr981 hR991
                    have c993 : Exa Z h991 b909 "[C" := (Exa.ext E991 c982)
                    have hx991_b909 := hne991 b909 (Safe.exa C991.2.1.alike c993 (by decide) (by decide))
                    have sa994 : Safe Z consts_1 sC991.vm h991 b919 := (CHr.safe hR991 (Nat.lt_of_lt_of_le A919.lt (Nat.le_trans (Nat.le_trans (Nat.le_refl _) K974.1) E978.1)) sa983)
                    have hx991_b919 := hne991 b919 sa994
                    have sa995 : Safe Z consts_1 sC991.vm h991 v_974 := (CHr.safe hR991 (Nat.lt_of_lt_of_le P974_2.lt (Nat.le_trans (Nat.le_refl _) E978.1)) sa984)
                    have hx991_v_974 := hne991 v_974 sa995
                    have tx996 : AL Z h991 v991 k991 .byte (by8 daL) := daV ▸ B991
                    refine Go.aload (pc' := 288) C991 X991 at_286 rfl rfl rfl ?_
                    have c998 : Exa Z h991 b919 "java/lang/String" := (Exa.ext E991 c987)
                    have c999 : Fld Z h991 b919 "java/lang/String" "coder" "B" (.int (1 : Int32)) := (Fld.ext E991 c988)
                    have O1000 : Ext Z.heap h991 := (Ext.trans O989 E991)
                    refine Go.callV (y := mN10) (z := mN10) (a := b991) (pc' := 291) C991 X991 (tw hw 38 rfl) (tw hw 39 rfl) (notFace_at C991.2.1 (tw hw 41 rfl)) (tw hw 41 rfl) (tw hw 40 rfl) A991 (by decide) (rm_eqC l Z a0 hw b991 b919 cP h991 O1000 SC A991 F991c c998 c999 (Ne.symm hx991_b919.1) hP) (tw hw 42 rfl) (tw hw 3 rfl) e991 (argsL := [(.ref b919)]) (rest := []) (W := 0) rfl rfl pd_10 rfl (Nat.le_of_eq rfl) rfl (by decide) (by decide) (by decide) (by decide) at_288 rfl ?_
                    intro T997 v997 L997 X997 q997
                    obtain ⟨rfl, rfl, e997⟩ := q997
                    have N997 := Fr.app N986 (Fr.nil _)
                    refine Go.ifYes (pc' := 302) C991 X997 at_291 ((if0 _ _).trans (teq (x := (0 : Int32)) (y := (0 : Int32)) (by decide)).1) (by decide) (by decide) ?_
                    refine Go.aconstNull (pc' := 303) C991 X997 at_302 rfl ?_
                    refine Go.astore (Ls' := #[.val (.int p1), .val (.int p2), .val (.int p3), .val (.int p4), .val (.int p5), .val (.int p6), .val (.int d6), .val (.int (p4 &&& (65535 : Int32))), .val (.int (p1 &&& (7 : Int32))), .val (.ref b919), .val .null, .val (.ref b909)]) (pc' := 305) C991 X997 at_303 rfl rfl rfl ?_
                    refine Go.aload (pc' := 307) C991 X997 at_305 rfl rfl rfl ?_
                    have ne1003 : tle ≠ b919 := Nat.ne_of_lt (Nat.lt_of_lt_of_le (Nat.lt_of_lt_of_le le_0.lt O0.1) (Nat.le_trans (Nat.le_trans (Nat.le_trans (Nat.le_trans (Nat.le_refl _) E909.1) (Nat.le_of_eq W912.size.symm)) (Nat.le_of_eq W915.size.symm)) (Nat.le_of_eq g919.symm)))
                    have ne1004 : tda ≠ b919 := Nat.ne_of_lt (Nat.lt_of_lt_of_le (Nat.lt_of_lt_of_le da_0.lt O0.1) (Nat.le_trans (Nat.le_trans (Nat.le_trans (Nat.le_trans (Nat.le_refl _) E909.1) (Nat.le_of_eq W912.size.symm)) (Nat.le_of_eq W915.size.symm)) (Nat.le_of_eq g919.symm)))
                    refine Go.callS (y := mN0) (pc' := 310) C991 X997 (tw hw 51 rfl) (tw hw 52 rfl) (by decide) (rm_nmUno l Z a0 hw va vk le0 tle lev lek da0 tda dav dak b919 cP h991 O1000 SV Ev Av Tle le_0 le_1 le_2 le_3 Tda da_0 da_1 da_2 da_3 c998 c999 SC hP ne1003 ne1004) (tw hw 53 rfl) (tw hw 49 rfl) e997 (argsL := [(.ref b919)]) (rest := []) (W := 0) rfl rfl pd_13 rfl (Nat.le_of_eq rfl) rfl (by decide) (by decide) (by decide) (by decide) at_307 rfl ?_
                    intro T1002 v1002 L1002 X1002 q1002
                    obtain ⟨rfl, N1002q, K1002⟩ := q1002
                    have N1002 := Fr.app N997 N1002q
                    have Hr1005 := CHr.trans Hr992 (CHr.keep K1002 all0 Hr992.1)
                    refine Go.aload (pc' := 312) C991 X1002 at_310 rfl rfl rfl ?_
                    refine Go.acmpNo (pc' := 315) C991 X1002 at_312 rfl rfl (XT.aa_ne_f rfl) rfl ?_
                    refine Go.iconst (z := (1 : Int32)) (pc' := 316) C991 X1002 at_315 rfl rfl ?_
                    refine Go.goto (pc' := 320) C991 X1002 at_316 (by decide) (by decide) ?_
                    have K1006 : Keep h0 T1002.heap [] := (((((((((Keep.refl h0 []).ext E909).wr W912 (Or.inr z_b909)).wr W915 (Or.inr z_b909)).ext E919).trans K974 (allS (Or.inr z_b919) all0)).ext E978).ext E991).trans K1002 all0)
                    have Si1007 : Sin s sC991 T1002.heap := Sin.mono Si991 (Nat.le_trans (Nat.le_refl _) K1002.1)
                    exact Go.retNH C991 X1002 Si1007 (EWc hw) Hr1005 rfl at_320 (by simp) ⟨rfl, N1002, K1006⟩ (by decide) (by decide)
                · rw [hl3]
                  refine Go.iload (pc' := 208) C X101 at_206 rfl rfl ?_
                  refine Go.newP (aty := .char) (cap := 3) (vs := [(.int (0 : Int32)), (.int (0 : Int32)), (.int (0 : Int32))]) (ad := "[C") (pc' := 210) C X101 (by decide) (tw hw 8 rfl) e101 (by decide) (by decide) (by decide) (by decide) (by decide) rfl at_208 rfl ?_
                  intro T1008 h1008 b1008 k1008 X1008 e1008 g1008 E1008 A1008 Ea1008
                  have Hr1009 := CHr.trans Hr0 (CHr.ext E1008 Hr0.1)
                  have n_b1008 : Z.heap.size ≤ b1008 := Nat.le_trans O0.1 (Nat.le_of_eq g1008.symm)
                  have z_b1008 : h0.size ≤ b1008 := Nat.le_trans (Nat.le_refl _) (Nat.le_of_eq g1008.symm)
                  have s_b1008 : Safe Z consts_1 s.vm h1008 b1008 := Safe.ext E1008 Hr0.1 (Safe.new (Nat.le_of_eq g1008.symm))
                  have A1008 : AL Z h1008 b1008 k1008 .char [(.int (0 : Int32)), (.int (0 : Int32)), (.int (0 : Int32))] := A1008
                  refine Go.astore (Ls' := #[.val (.int p1), .val (.int p2), .val (.int p3), .val (.int p4), .val (.int p5), .val (.int p6), .val (.int d6), .val (.int (p4 &&& (65535 : Int32))), .val (.int (p1 &&& (7 : Int32))), .unset, .val (.int (3 : Int32)), .val (.ref b1008)]) (pc' := 212) C X1008 at_210 rfl rfl rfl ?_
                  refine Go.iload (pc' := 214) C X1008 at_212 rfl rfl ?_
                  refine Go.ifNo (pc' := 217) C X1008 at_214 ((if0 _ _).trans (tlt (x := (0 : Int32)) (y := (3 : Int32)) (by decide)).2.2.2) rfl ?_
                  refine Go.aload (pc' := 219) C X1008 at_217 rfl rfl rfl ?_
                  refine Go.iconst (z := (0 : Int32)) (pc' := 220) C X1008 at_219 rfl rfl ?_
                  refine Go.iload (pc' := 222) C X1008 at_220 rfl rfl ?_
                  refine Go.stC (i := 0) (x' := (p4 &&& (65535 : Int32))) (vs' := [(.int (p4 &&& (65535 : Int32))), (.int (0 : Int32)), (.int (0 : Int32))]) (pc' := 223) C X1008 e1008 A1008 (by decide) (by decide) (by simp) (n16 _) rfl at_222 rfl ?_
                  intro T1011 h1011 X1011 e1011 W1011 A1011
                  have Hr1012 := CHr.trans Hr1009 (CHr.wr W1011 (Safe.exa C.2.1.alike Ea1008 (by decide) (by decide)) Hr1009.1)
                  have N1011 := Fr.snoc X1011 N101 n_b1008
                  refine Go.iload (pc' := 225) C X1011 at_223 rfl rfl ?_
                  refine Go.iconst (z := (1 : Int32)) (pc' := 226) C X1011 at_225 rfl rfl ?_
                  refine Go.icmpNo (pc' := 229) C X1011 at_226 (tlt (x := (1 : Int32)) (y := (3 : Int32)) (by decide)).2.2.2 rfl ?_
                  refine Go.aload (pc' := 231) C X1011 at_229 rfl rfl rfl ?_
                  refine Go.iconst (z := (1 : Int32)) (pc' := 232) C X1011 at_231 rfl rfl ?_
                  refine Go.iload (pc' := 234) C X1011 at_232 rfl rfl ?_
                  refine Go.ldcI (pc' := 236) C X1011 at_234 (tw hw 0 rfl) rfl ?_
                  refine Go.iand (pc' := 237) C X1011 at_236 rfl ?_
                  refine Go.i2c (pc' := 238) C X1011 at_237 rfl ?_
                  refine Go.stC (i := 1) (x' := (p5 &&& (65535 : Int32))) (vs' := [(.int (p4 &&& (65535 : Int32))), (.int (p5 &&& (65535 : Int32))), (.int (0 : Int32))]) (pc' := 239) C X1011 e1011 A1011 (by decide) (by decide) (by simp) (n16b _) rfl at_238 rfl ?_
                  intro T1014 h1014 X1014 e1014 W1014 A1014
                  have c1016 : Exa Z h1011 b1008 "[C" := (Exa.wr W1011 Ea1008)
                  have Hr1015 := CHr.trans Hr1012 (CHr.wr W1014 (Safe.exa C.2.1.alike c1016 (by decide) (by decide)) Hr1012.1)
                  have N1014 := Fr.snoc X1014 N1011 n_b1008
                  refine Go.iload (pc' := 241) C X1014 at_239 rfl rfl ?_
                  refine Go.iconst (z := (2 : Int32)) (pc' := 242) C X1014 at_241 rfl rfl ?_
                  refine Go.icmpNo (pc' := 245) C X1014 at_242 (tlt (x := (2 : Int32)) (y := (3 : Int32)) (by decide)).2.2.2 rfl ?_
                  refine Go.aload (pc' := 247) C X1014 at_245 rfl rfl rfl ?_
                  refine Go.iconst (z := (2 : Int32)) (pc' := 248) C X1014 at_247 rfl rfl ?_
                  refine Go.iload (pc' := 250) C X1014 at_248 rfl rfl ?_
                  refine Go.ldcI (pc' := 252) C X1014 at_250 (tw hw 0 rfl) rfl ?_
                  refine Go.iand (pc' := 253) C X1014 at_252 rfl ?_
                  refine Go.i2c (pc' := 254) C X1014 at_253 rfl ?_
                  refine Go.stC (i := 2) (x' := (p6 &&& (65535 : Int32))) (vs' := [(.int (p4 &&& (65535 : Int32))), (.int (p5 &&& (65535 : Int32))), (.int (p6 &&& (65535 : Int32)))]) (pc' := 255) C X1014 e1014 A1014 (by decide) (by decide) (by simp) (n16b _) rfl at_254 rfl ?_
                  intro T1018 h1018 X1018 e1018 W1018 A1018
                  have c1020 : Exa Z h1014 b1008 "[C" := (Exa.wr W1014 c1016)
                  have Hr1019 := CHr.trans Hr1015 (CHr.wr W1018 (Safe.exa C.2.1.alike c1020 (by decide) (by decide)) Hr1015.1)
                  have N1018 := Fr.snoc X1018 N1014 n_b1008
                  have O1022 : Ext Z.heap h1018 := (Ext.wr (Ext.wr (Ext.wr (Ext.trans O0 E1008) W1011 n_b1008) W1014 n_b1008) W1018 n_b1008)
                  refine Go.newO (pc' := 258) C X1018 (tw hw 1 rfl) (tw hw 2 rfl) (tw hw 3 rfl) e1018 (by decide) (by decide) at_255 rfl ?_
                  intro T1021 h1021 b1021 X1021 e1021 g1021 E1021 A1021 D1021
                  have Hr1023 := CHr.trans Hr1019 (CHr.ext E1021 Hr1019.1)
                  have n_b1021 : Z.heap.size ≤ b1021 := Nat.le_trans O1022.1 (Nat.le_of_eq g1021.symm)
                  have z_b1021 : h0.size ≤ b1021 := Nat.le_trans (Nat.le_trans (Nat.le_trans (Nat.le_trans (Nat.le_trans (Nat.le_refl _) E1008.1) (Nat.le_of_eq W1011.size.symm)) (Nat.le_of_eq W1014.size.symm)) (Nat.le_of_eq W1018.size.symm)) (Nat.le_of_eq g1021.symm)
                  have s_b1021 : Safe Z consts_1 s.vm h1021 b1021 := Safe.ext E1021 Hr1019.1 (Safe.new (Nat.le_of_eq g1021.symm))
                  have F1021_coder : Fld Z h1021 b1021 "java/lang/String" "coder" "B" (.int (0 : Int32)) := D1021 (Or.inr (tw hw 32 rfl)) (ty := .byte) (by decide)
                  have F1021_value : Fld Z h1021 b1021 "java/lang/String" "value" "[B" .null := D1021 (Or.inr (tw hw 34 rfl)) (ty := (.array .byte)) (by decide)
                  refine Go.dup (pc' := 259) C X1021 at_258 rfl rfl ?_
                  refine Go.aload (pc' := 261) C X1021 at_259 rfl rfl rfl ?_
                  have hlen : [(p4 &&& (65535 : Int32)), (p5 &&& (65535 : Int32)), (p6 &&& (65535 : Int32))].length = 3 := by rfl
                  rcases split16 [(p4 &&& (65535 : Int32)), (p5 &&& (65535 : Int32)), (p6 &&& (65535 : Int32))] (by intro x hx; simp only [List.mem_cons, List.not_mem_nil, or_false] at hx; rcases hx with rfl | rfl | rfl <;> exact m16 _) with hAll | ⟨j, xj, hj, hx, hx2, hb⟩
                  · have c1025 : AL Z h1021 b1008 k1008 .char [(.int (p4 &&& (65535 : Int32))), (.int (p5 &&& (65535 : Int32))), (.int (p6 &&& (65535 : Int32)))] := (AL.ext E1021 A1018)
                    have O1026 : Ext Z.heap h1021 := (Ext.trans O1022 E1021)
                    refine Go.callI (y := mN8) (a := b1021) (pc' := 264) C X1021 rfl (tw hw 9 rfl) (tw hw 10 rfl) (by decide) (rm_sI1 l Z a0 hw b1021 b1008 k1008 ([(p4 &&& (65535 : Int32)), (p5 &&& (65535 : Int32)), (p6 &&& (65535 : Int32))]) cP h1021 O1026 A1021 F1021_value F1021_coder (show AL Z h1021 b1008 k1008 .char (ch16 [(p4 &&& (65535 : Int32)), (p5 &&& (65535 : Int32)), (p6 &&& (65535 : Int32))]) from c1025) SC hAll (by rw [hlen]; decide) (by rw [hlen]; decide) (by rw [hlen]; decide) hP n_b1021) (tw hw 11 rfl) (tw hw 3 rfl) e1021 (argsL := [(.ref b1008)]) (rest := [(.ref b1021)]) (W := 1) rfl rfl pd_12 rfl (Nat.le_of_eq rfl) rfl (by decide) (by decide) (by decide) (by decide) rfl at_261 rfl ?_
                    intro T1024 v1024 L1024 X1024 q1024
                    obtain ⟨v_1024, kv_1024, rfl, N1024q, K1024, B1024_0, P1024_0, P1024_1, P1024_2⟩ := q1024
                    have N1024 := Fr.app N1018 N1024q
                    have Hr1027 := CHr.trans Hr1023 (CHr.keep K1024 (allS s_b1021 all0) Hr1023.1)
                    have n_v_1024 : Z.heap.size ≤ v_1024 := Nat.le_trans O1026.1 B1024_0
                    have z_v_1024 : h0.size ≤ v_1024 := Nat.le_trans (Nat.le_trans (Nat.le_trans (Nat.le_trans (Nat.le_trans (Nat.le_trans (Nat.le_refl _) E1008.1) (Nat.le_of_eq W1011.size.symm)) (Nat.le_of_eq W1014.size.symm)) (Nat.le_of_eq W1018.size.symm)) E1021.1) B1024_0
                    have s_v_1024 : Safe Z consts_1 s.vm T1024.heap v_1024 := Safe.keep K1024 (allS s_b1021 all0) Hr1023.1 (Safe.new B1024_0)
                    refine Go.astore (Ls' := #[.val (.int p1), .val (.int p2), .val (.int p3), .val (.int p4), .val (.int p5), .val (.int p6), .val (.int d6), .val (.int (p4 &&& (65535 : Int32))), .val (.int (p1 &&& (7 : Int32))), .val (.ref b1021), .val (.int (3 : Int32)), .val (.ref b1008)]) (pc' := 266) C X1024 at_264 rfl rfl rfl ?_
                    have O1029 : Ext Z.heap T1024.heap := (Ext.keep O1026 K1024 (allS n_b1021 all0))
                    have Si1030 : Sin s s T1024.heap := Sin.mono Si0 (Nat.le_trans (Nat.le_trans (Nat.le_trans (Nat.le_trans (Nat.le_trans (Nat.le_trans (Nat.le_refl _) E1008.1) (Nat.le_of_eq W1011.size.symm)) (Nat.le_of_eq W1014.size.symm)) (Nat.le_of_eq W1018.size.symm)) E1021.1) K1024.1)
                    refine Go.ldcH (pc' := 268) (n := 60) (vs := [(.int (108 : Int32)), (.int (97 : Int32)), (.int (119 : Int32)), (.int (45 : Int32)), (.int (101 : Int32)), (.int (110 : Int32)), (.int (102 : Int32)), (.int (111 : Int32)), (.int (114 : Int32)), (.int (99 : Int32)), (.int (101 : Int32)), (.int (109 : Int32)), (.int (101 : Int32)), (.int (110 : Int32)), (.int (116 : Int32))]) (z := (15 : Int32)) C X1024 Si1030 (EWc hw) Hr1027.1 (tw hw 35 rfl) (wS hw) rfl (by decide) (by decide) (by decide) (by decide) (by decide) (by decide) (by decide) (by decide) at_266 rfl ?_
                    intro T1028 h1028 b1028 sC1028 v1028 k1028 C1028 X1028 e1028 Si1028 E1028 hR1028 A1028 F1028c F1028v B1028 hne1028
                    have Hr1031 := CHr.trans Hr1027 hR1028
                    have c1032 : Exa Z h1028 b1008 "[C" := (Exa.ext E1028 (Exa.keep (Exa.ext E1021 (Exa.wr W1018 c1020)) K1024))
                    have hx1028_b1008 := hne1028 b1008 (Safe.exa C1028.2.1.alike c1032 (by decide) (by decide))
                    have sa1033 : Safe Z consts_1 sC1028.vm h1028 b1021 := (CHr.safe hR1028 (Nat.lt_of_lt_of_le A1021.lt (Nat.le_trans (Nat.le_refl _) K1024.1)) (Safe.keep K1024 (allS s_b1021 all0) Hr1023.1 s_b1021))
                    have hx1028_b1021 := hne1028 b1021 sa1033
                    have sa1034 : Safe Z consts_1 sC1028.vm h1028 v_1024 := (CHr.safe hR1028 (Nat.lt_of_lt_of_le P1024_2.lt (Nat.le_refl _)) s_v_1024)
                    have hx1028_v_1024 := hne1028 v_1024 sa1034
                    have tx1035 : AL Z h1028 v1028 k1028 .byte (by8 leL) := leV ▸ B1028
                    refine Go.aload (pc' := 270) C1028 X1028 at_268 rfl rfl rfl ?_
                    have c1037 : Exa Z h1028 b1021 "java/lang/String" := (Exa.ext E1028 (Exa.keep A1021 K1024))
                    have c1038 : Fld Z h1028 b1021 "java/lang/String" "value" "[B" (.ref v_1024) := (Fld.ext E1028 P1024_0)
                    have c1039 : Fld Z h1028 b1021 "java/lang/String" "coder" "B" (.int (0 : Int32)) := (Fld.ext E1028 P1024_1)
                    have c1040 : AL Z h1028 v_1024 kv_1024 .byte (by8 [(p4 &&& (65535 : Int32)), (p5 &&& (65535 : Int32)), (p6 &&& (65535 : Int32))]) := (AL.ext E1028 P1024_2)
                    have O1041 : Ext Z.heap h1028 := (Ext.trans O1029 E1028)
                    refine Go.callV (y := mN10) (z := mN10) (a := b1028) (pc' := 273) C1028 X1028 (tw hw 38 rfl) (tw hw 39 rfl) (notFace_at C1028.2.1 (tw hw 41 rfl)) (tw hw 41 rfl) (tw hw 40 rfl) A1028 (by decide) (rm_eqS l Z a0 hw b1028 b1021 v1028 v_1024 k1028 kv_1024 leL ([(p4 &&& (65535 : Int32)), (p5 &&& (65535 : Int32)), (p6 &&& (65535 : Int32))]) cP h1028 O1041 SC A1028 F1028v F1028c tx1035 c1037 c1038 c1039 c1040 (Ne.symm hx1028_b1021.1) hP (by decide) (by rw [hlen]; decide)) (tw hw 42 rfl) (tw hw 3 rfl) e1028 (argsL := [(.ref b1021)]) (rest := []) (W := 0) rfl rfl pd_10 rfl (Nat.le_of_eq rfl) rfl (by decide) (by decide) (by decide) (by decide) at_270 rfl ?_
                    intro T1036 v1036 L1036 X1036 q1036
                    obtain ⟨rfl, rfl, e1036⟩ := q1036
                    have N1036 := Fr.app N1024 (Fr.nil _)
                    by_cases hc273_1042 : (if by8 leL = by8 [(p4 &&& (65535 : Int32)), (p5 &&& (65535 : Int32)), (p6 &&& (65535 : Int32))] then (1 : Int32) else 0) = (0 : Int32)
                    · refine Go.ifYes (pc' := 284) C1028 X1036 at_273 ((if0 _ _).trans (teq (x := (if by8 leL = by8 [(p4 &&& (65535 : Int32)), (p5 &&& (65535 : Int32)), (p6 &&& (65535 : Int32))] then (1 : Int32) else 0)) (y := (0 : Int32)) hc273_1042).1) (by decide) (by decide) ?_
                      refine Go.ldcH (pc' := 286) (n := 68) (vs := [(.int (100 : Int32)), (.int (105 : Int32)), (.int (115 : Int32)), (.int (116 : Int32)), (.int (114 : Int32)), (.int (105 : Int32)), (.int (99 : Int32)), (.int (116 : Int32)), (.int (45 : Int32)), (.int (97 : Int32)), (.int (116 : Int32)), (.int (116 : Int32)), (.int (111 : Int32)), (.int (114 : Int32)), (.int (110 : Int32)), (.int (101 : Int32)), (.int (121 : Int32))]) (z := (17 : Int32)) C1028 X1036 Si1028 (EWc hw) Hr1031.1 (tw hw 76 rfl) (wS hw) e1036 (by decide) (by decide) (by decide) (by decide) (by decide) (by decide) (by decide) (by decide) at_284 rfl ?_
                      intro T1043 h1043 b1043 sC1043 v1043 k1043 C1043 X1043 e1043 Si1043 E1043 hR1043 A1043 F1043c F1043v B1043 hne1043
                      have Hr1044 := CHr.trans Hr1031 hR1043
                      have c1045 : Exa Z h1043 b1008 "[C" := (Exa.ext E1043 c1032)
                      have hx1043_b1008 := hne1043 b1008 (Safe.exa C1043.2.1.alike c1045 (by decide) (by decide))
                      have sa1046 : Safe Z consts_1 sC1043.vm h1043 b1021 := (CHr.safe hR1043 (Nat.lt_of_lt_of_le A1021.lt (Nat.le_trans (Nat.le_trans (Nat.le_refl _) K1024.1) E1028.1)) sa1033)
                      have hx1043_b1021 := hne1043 b1021 sa1046
                      have sa1047 : Safe Z consts_1 sC1043.vm h1043 v_1024 := (CHr.safe hR1043 (Nat.lt_of_lt_of_le P1024_2.lt (Nat.le_trans (Nat.le_refl _) E1028.1)) sa1034)
                      have hx1043_v_1024 := hne1043 v_1024 sa1047
                      have tx1048 : AL Z h1043 v1043 k1043 .byte (by8 daL) := daV ▸ B1043
                      refine Go.aload (pc' := 288) C1043 X1043 at_286 rfl rfl rfl ?_
                      have c1050 : Exa Z h1043 b1021 "java/lang/String" := (Exa.ext E1043 c1037)
                      have c1051 : Fld Z h1043 b1021 "java/lang/String" "value" "[B" (.ref v_1024) := (Fld.ext E1043 c1038)
                      have c1052 : Fld Z h1043 b1021 "java/lang/String" "coder" "B" (.int (0 : Int32)) := (Fld.ext E1043 c1039)
                      have c1053 : AL Z h1043 v_1024 kv_1024 .byte (by8 [(p4 &&& (65535 : Int32)), (p5 &&& (65535 : Int32)), (p6 &&& (65535 : Int32))]) := (AL.ext E1043 c1040)
                      have O1054 : Ext Z.heap h1043 := (Ext.trans O1041 E1043)
                      refine Go.callV (y := mN10) (z := mN10) (a := b1043) (pc' := 291) C1043 X1043 (tw hw 38 rfl) (tw hw 39 rfl) (notFace_at C1043.2.1 (tw hw 41 rfl)) (tw hw 41 rfl) (tw hw 40 rfl) A1043 (by decide) (rm_eqS l Z a0 hw b1043 b1021 v1043 v_1024 k1043 kv_1024 daL ([(p4 &&& (65535 : Int32)), (p5 &&& (65535 : Int32)), (p6 &&& (65535 : Int32))]) cP h1043 O1054 SC A1043 F1043v F1043c tx1048 c1050 c1051 c1052 c1053 (Ne.symm hx1043_b1021.1) hP (by decide) (by rw [hlen]; decide)) (tw hw 42 rfl) (tw hw 3 rfl) e1043 (argsL := [(.ref b1021)]) (rest := []) (W := 0) rfl rfl pd_10 rfl (Nat.le_of_eq rfl) rfl (by decide) (by decide) (by decide) (by decide) at_288 rfl ?_
                      intro T1049 v1049 L1049 X1049 q1049
                      obtain ⟨rfl, rfl, e1049⟩ := q1049
                      have N1049 := Fr.app N1036 (Fr.nil _)
                      by_cases hc291_1055 : (if by8 daL = by8 [(p4 &&& (65535 : Int32)), (p5 &&& (65535 : Int32)), (p6 &&& (65535 : Int32))] then (1 : Int32) else 0) = (0 : Int32)
                      · refine Go.ifYes (pc' := 302) C1043 X1049 at_291 ((if0 _ _).trans (teq (x := (if by8 daL = by8 [(p4 &&& (65535 : Int32)), (p5 &&& (65535 : Int32)), (p6 &&& (65535 : Int32))] then (1 : Int32) else 0)) (y := (0 : Int32)) hc291_1055).1) (by decide) (by decide) ?_
                        refine Go.aconstNull (pc' := 303) C1043 X1049 at_302 rfl ?_
                        refine Go.astore (Ls' := #[.val (.int p1), .val (.int p2), .val (.int p3), .val (.int p4), .val (.int p5), .val (.int p6), .val (.int d6), .val (.int (p4 &&& (65535 : Int32))), .val (.int (p1 &&& (7 : Int32))), .val (.ref b1021), .val .null, .val (.ref b1008)]) (pc' := 305) C1043 X1049 at_303 rfl rfl rfl ?_
                        refine Go.aload (pc' := 307) C1043 X1049 at_305 rfl rfl rfl ?_
                        have ne1057 : tle ≠ b1021 := Nat.ne_of_lt (Nat.lt_of_lt_of_le (Nat.lt_of_lt_of_le le_0.lt O0.1) (Nat.le_trans (Nat.le_trans (Nat.le_trans (Nat.le_trans (Nat.le_trans (Nat.le_refl _) E1008.1) (Nat.le_of_eq W1011.size.symm)) (Nat.le_of_eq W1014.size.symm)) (Nat.le_of_eq W1018.size.symm)) (Nat.le_of_eq g1021.symm)))
                        have ne1058 : tda ≠ b1021 := Nat.ne_of_lt (Nat.lt_of_lt_of_le (Nat.lt_of_lt_of_le da_0.lt O0.1) (Nat.le_trans (Nat.le_trans (Nat.le_trans (Nat.le_trans (Nat.le_trans (Nat.le_refl _) E1008.1) (Nat.le_of_eq W1011.size.symm)) (Nat.le_of_eq W1014.size.symm)) (Nat.le_of_eq W1018.size.symm)) (Nat.le_of_eq g1021.symm)))
                        refine Go.callS (y := mN0) (pc' := 310) C1043 X1049 (tw hw 51 rfl) (tw hw 52 rfl) (by decide) (rm_nmLno l Z a0 hw va vk le0 tle lev lek da0 tda dav dak b1021 cP v_1024 kv_1024 ([(p4 &&& (65535 : Int32)), (p5 &&& (65535 : Int32)), (p6 &&& (65535 : Int32))]) h1043 O1054 SV Ev Av Tle le_0 le_1 le_2 le_3 Tda da_0 da_1 da_2 da_3 c1050 c1051 c1052 c1053 SC hP ne1057 ne1058 (by rw [hlen]; decide) (own_ifz hc273_1042) (own_ifz hc291_1055)) (tw hw 53 rfl) (tw hw 49 rfl) e1049 (argsL := [(.ref b1021)]) (rest := []) (W := 0) rfl rfl pd_13 rfl (Nat.le_of_eq rfl) rfl (by decide) (by decide) (by decide) (by decide) at_307 rfl ?_
                        intro T1056 v1056 L1056 X1056 q1056
                        obtain ⟨rfl, N1056q, K1056⟩ := q1056
                        have N1056 := Fr.app N1049 N1056q
                        have Hr1059 := CHr.trans Hr1044 (CHr.keep K1056 all0 Hr1044.1)
                        refine Go.aload (pc' := 312) C1043 X1056 at_310 rfl rfl rfl ?_
                        refine Go.acmpNo (pc' := 315) C1043 X1056 at_312 rfl rfl (XT.aa_ne_f rfl) rfl ?_
                        refine Go.iconst (z := (1 : Int32)) (pc' := 316) C1043 X1056 at_315 rfl rfl ?_
                        refine Go.goto (pc' := 320) C1043 X1056 at_316 (by decide) (by decide) ?_
                        have K1060 : Keep h0 T1056.heap [] := ((((((((((Keep.refl h0 []).ext E1008).wr W1011 (Or.inr z_b1008)).wr W1014 (Or.inr z_b1008)).wr W1018 (Or.inr z_b1008)).ext E1021).trans K1024 (allS (Or.inr z_b1021) all0)).ext E1028).ext E1043).trans K1056 all0)
                        have Si1061 : Sin s sC1043 T1056.heap := Sin.mono Si1043 (Nat.le_trans (Nat.le_refl _) K1056.1)
                        exact Go.retNH C1043 X1056 Si1061 (EWc hw) Hr1059 rfl at_320 (by simp) ⟨rfl, N1056, K1060⟩ (by decide) (by decide)
                      · refine Go.ifNo (pc' := 294) C1043 X1049 at_291 ((if0 _ _).trans (feq (x := (if by8 daL = by8 [(p4 &&& (65535 : Int32)), (p5 &&& (65535 : Int32)), (p6 &&& (65535 : Int32))] then (1 : Int32) else 0)) (y := (0 : Int32)) hc291_1055).1) rfl ?_
                        refine Go.getS (pc' := 297) (host := "") C1043 X1049 (Or.inl (tw hw 110 rfl)) Via.refl e1049 (Sda.ext O1054) at_294 rfl ?_
                        intro T1062 X1062 e1062
                        refine Go.astore (Ls' := #[.val (.int p1), .val (.int p2), .val (.int p3), .val (.int p4), .val (.int p5), .val (.int p6), .val (.int d6), .val (.int (p4 &&& (65535 : Int32))), .val (.int (p1 &&& (7 : Int32))), .val (.ref b1021), .val (.ref da0), .val (.ref b1008)]) (pc' := 299) C1043 X1062 at_297 rfl rfl rfl ?_
                        refine Go.goto (pc' := 305) C1043 X1062 at_299 (by decide) (by decide) ?_
                        refine Go.aload (pc' := 307) C1043 X1062 at_305 rfl rfl rfl ?_
                        have ne1064 : tle ≠ b1021 := Nat.ne_of_lt (Nat.lt_of_lt_of_le (Nat.lt_of_lt_of_le le_0.lt O0.1) (Nat.le_trans (Nat.le_trans (Nat.le_trans (Nat.le_trans (Nat.le_trans (Nat.le_refl _) E1008.1) (Nat.le_of_eq W1011.size.symm)) (Nat.le_of_eq W1014.size.symm)) (Nat.le_of_eq W1018.size.symm)) (Nat.le_of_eq g1021.symm)))
                        have ne1065 : tda ≠ b1021 := Nat.ne_of_lt (Nat.lt_of_lt_of_le (Nat.lt_of_lt_of_le da_0.lt O0.1) (Nat.le_trans (Nat.le_trans (Nat.le_trans (Nat.le_trans (Nat.le_trans (Nat.le_refl _) E1008.1) (Nat.le_of_eq W1011.size.symm)) (Nat.le_of_eq W1014.size.symm)) (Nat.le_of_eq W1018.size.symm)) (Nat.le_of_eq g1021.symm)))
                        refine Go.callS (y := mN0) (pc' := 310) C1043 X1062 (tw hw 51 rfl) (tw hw 52 rfl) (by decide) (rm_nmLda l Z a0 hw va vk le0 tle lev lek da0 tda dav dak b1021 cP v_1024 kv_1024 ([(p4 &&& (65535 : Int32)), (p5 &&& (65535 : Int32)), (p6 &&& (65535 : Int32))]) h1043 O1054 SV Ev Av Tle le_0 le_1 le_2 le_3 Tda da_0 da_1 da_2 da_3 c1050 c1051 c1052 c1053 SC hP ne1064 ne1065 (by rw [hlen]; decide) (own_ifz hc273_1042) (own_ifn hc291_1055)) (tw hw 53 rfl) (tw hw 49 rfl) e1062 (argsL := [(.ref b1021)]) (rest := []) (W := 0) rfl rfl pd_13 rfl (Nat.le_of_eq rfl) rfl (by decide) (by decide) (by decide) (by decide) at_307 rfl ?_
                        intro T1063 v1063 L1063 X1063 q1063
                        obtain ⟨rfl, N1063q, K1063⟩ := q1063
                        have N1063 := Fr.app N1049 N1063q
                        have Hr1066 := CHr.trans Hr1044 (CHr.keep K1063 all0 Hr1044.1)
                        refine Go.aload (pc' := 312) C1043 X1063 at_310 rfl rfl rfl ?_
                        refine Go.acmpNo (pc' := 315) C1043 X1063 at_312 rfl rfl (XT.aa_ne_f rfl) rfl ?_
                        refine Go.iconst (z := (1 : Int32)) (pc' := 316) C1043 X1063 at_315 rfl rfl ?_
                        refine Go.goto (pc' := 320) C1043 X1063 at_316 (by decide) (by decide) ?_
                        have K1067 : Keep h0 T1063.heap [] := ((((((((((Keep.refl h0 []).ext E1008).wr W1011 (Or.inr z_b1008)).wr W1014 (Or.inr z_b1008)).wr W1018 (Or.inr z_b1008)).ext E1021).trans K1024 (allS (Or.inr z_b1021) all0)).ext E1028).ext E1043).trans K1063 all0)
                        have Si1068 : Sin s sC1043 T1063.heap := Sin.mono Si1043 (Nat.le_trans (Nat.le_refl _) K1063.1)
                        exact Go.retNH C1043 X1063 Si1068 (EWc hw) Hr1066 rfl at_320 (by simp) ⟨rfl, N1063, K1067⟩ (by decide) (by decide)
                    · refine Go.ifNo (pc' := 276) C1028 X1036 at_273 ((if0 _ _).trans (feq (x := (if by8 leL = by8 [(p4 &&& (65535 : Int32)), (p5 &&& (65535 : Int32)), (p6 &&& (65535 : Int32))] then (1 : Int32) else 0)) (y := (0 : Int32)) hc273_1042).1) rfl ?_
                      refine Go.getS (pc' := 279) (host := "") C1028 X1036 (Or.inl (tw hw 48 rfl)) Via.refl e1036 (Sle.ext O1041) at_276 rfl ?_
                      intro T1069 X1069 e1069
                      refine Go.astore (Ls' := #[.val (.int p1), .val (.int p2), .val (.int p3), .val (.int p4), .val (.int p5), .val (.int p6), .val (.int d6), .val (.int (p4 &&& (65535 : Int32))), .val (.int (p1 &&& (7 : Int32))), .val (.ref b1021), .val (.ref le0), .val (.ref b1008)]) (pc' := 281) C1028 X1069 at_279 rfl rfl rfl ?_
                      refine Go.goto (pc' := 305) C1028 X1069 at_281 (by decide) (by decide) ?_
                      refine Go.aload (pc' := 307) C1028 X1069 at_305 rfl rfl rfl ?_
                      have ne1071 : tle ≠ b1021 := Nat.ne_of_lt (Nat.lt_of_lt_of_le (Nat.lt_of_lt_of_le le_0.lt O0.1) (Nat.le_trans (Nat.le_trans (Nat.le_trans (Nat.le_trans (Nat.le_trans (Nat.le_refl _) E1008.1) (Nat.le_of_eq W1011.size.symm)) (Nat.le_of_eq W1014.size.symm)) (Nat.le_of_eq W1018.size.symm)) (Nat.le_of_eq g1021.symm)))
                      have ne1072 : tda ≠ b1021 := Nat.ne_of_lt (Nat.lt_of_lt_of_le (Nat.lt_of_lt_of_le da_0.lt O0.1) (Nat.le_trans (Nat.le_trans (Nat.le_trans (Nat.le_trans (Nat.le_trans (Nat.le_refl _) E1008.1) (Nat.le_of_eq W1011.size.symm)) (Nat.le_of_eq W1014.size.symm)) (Nat.le_of_eq W1018.size.symm)) (Nat.le_of_eq g1021.symm)))
                      refine Go.callS (y := mN0) (pc' := 310) C1028 X1069 (tw hw 51 rfl) (tw hw 52 rfl) (by decide) (rm_nmLle l Z a0 hw va vk le0 tle lev lek da0 tda dav dak b1021 cP v_1024 kv_1024 ([(p4 &&& (65535 : Int32)), (p5 &&& (65535 : Int32)), (p6 &&& (65535 : Int32))]) h1028 O1041 SV Ev Av Tle le_0 le_1 le_2 le_3 Tda da_0 da_1 da_2 da_3 c1037 c1038 c1039 c1040 SC hP ne1071 ne1072 (by rw [hlen]; decide) (own_ifn hc273_1042)) (tw hw 53 rfl) (tw hw 49 rfl) e1069 (argsL := [(.ref b1021)]) (rest := []) (W := 0) rfl rfl pd_13 rfl (Nat.le_of_eq rfl) rfl (by decide) (by decide) (by decide) (by decide) at_307 rfl ?_
                      intro T1070 v1070 L1070 X1070 q1070
                      obtain ⟨rfl, N1070q, K1070⟩ := q1070
                      have N1070 := Fr.app N1036 N1070q
                      have Hr1073 := CHr.trans Hr1031 (CHr.keep K1070 all0 Hr1031.1)
                      refine Go.aload (pc' := 312) C1028 X1070 at_310 rfl rfl rfl ?_
                      refine Go.acmpNo (pc' := 315) C1028 X1070 at_312 rfl rfl (XT.aa_ne_f rfl) rfl ?_
                      refine Go.iconst (z := (1 : Int32)) (pc' := 316) C1028 X1070 at_315 rfl rfl ?_
                      refine Go.goto (pc' := 320) C1028 X1070 at_316 (by decide) (by decide) ?_
                      have K1074 : Keep h0 T1070.heap [] := (((((((((Keep.refl h0 []).ext E1008).wr W1011 (Or.inr z_b1008)).wr W1014 (Or.inr z_b1008)).wr W1018 (Or.inr z_b1008)).ext E1021).trans K1024 (allS (Or.inr z_b1021) all0)).ext E1028).trans K1070 all0)
                      have Si1075 : Sin s sC1028 T1070.heap := Sin.mono Si1028 (Nat.le_trans (Nat.le_refl _) K1070.1)
                      exact Go.retNH C1028 X1070 Si1075 (EWc hw) Hr1073 rfl at_320 (by simp) ⟨rfl, N1070, K1074⟩ (by decide) (by decide)
                  · have c1077 : AL Z h1021 b1008 k1008 .char [(.int (p4 &&& (65535 : Int32))), (.int (p5 &&& (65535 : Int32))), (.int (p6 &&& (65535 : Int32)))] := (AL.ext E1021 A1018)
                    have O1078 : Ext Z.heap h1021 := (Ext.trans O1022 E1021)
                    refine Go.callI (y := mN8) (a := b1021) (pc' := 264) C X1021 rfl (tw hw 9 rfl) (tw hw 10 rfl) (by decide) (rm_sU1 l Z a0 hw b1021 b1008 k1008 ([(p4 &&& (65535 : Int32)), (p5 &&& (65535 : Int32)), (p6 &&& (65535 : Int32))]) j xj cP h1021 O1078 A1021 F1021_value F1021_coder (show AL Z h1021 b1008 k1008 .char (ch16 [(p4 &&& (65535 : Int32)), (p5 &&& (65535 : Int32)), (p6 &&& (65535 : Int32))]) from c1077) SC SH SLo SAd (by rw [hlen]; decide) hj hx hx2 hb hP n_b1021) (tw hw 11 rfl) (tw hw 3 rfl) e1021 (argsL := [(.ref b1008)]) (rest := [(.ref b1021)]) (W := 1) rfl rfl pd_12 rfl (Nat.le_of_eq rfl) rfl (by decide) (by decide) (by decide) (by decide) rfl at_261 rfl ?_
                    intro T1076 v1076 L1076 X1076 q1076
                    obtain ⟨v_1076, kv_1076, ys_1076, rfl, N1076q, K1076, B1076_0, P1076_0, P1076_1, P1076_2⟩ := q1076
                    have N1076 := Fr.app N1018 N1076q
                    have Hr1079 := CHr.trans Hr1023 (CHr.keep K1076 (allS s_b1021 all0) Hr1023.1)
                    have n_v_1076 : Z.heap.size ≤ v_1076 := Nat.le_trans O1078.1 B1076_0
                    have z_v_1076 : h0.size ≤ v_1076 := Nat.le_trans (Nat.le_trans (Nat.le_trans (Nat.le_trans (Nat.le_trans (Nat.le_trans (Nat.le_refl _) E1008.1) (Nat.le_of_eq W1011.size.symm)) (Nat.le_of_eq W1014.size.symm)) (Nat.le_of_eq W1018.size.symm)) E1021.1) B1076_0
                    have s_v_1076 : Safe Z consts_1 s.vm T1076.heap v_1076 := Safe.keep K1076 (allS s_b1021 all0) Hr1023.1 (Safe.new B1076_0)
                    refine Go.astore (Ls' := #[.val (.int p1), .val (.int p2), .val (.int p3), .val (.int p4), .val (.int p5), .val (.int p6), .val (.int d6), .val (.int (p4 &&& (65535 : Int32))), .val (.int (p1 &&& (7 : Int32))), .val (.ref b1021), .val (.int (3 : Int32)), .val (.ref b1008)]) (pc' := 266) C X1076 at_264 rfl rfl rfl ?_
                    have O1081 : Ext Z.heap T1076.heap := (Ext.keep O1078 K1076 (allS n_b1021 all0))
                    have Si1082 : Sin s s T1076.heap := Sin.mono Si0 (Nat.le_trans (Nat.le_trans (Nat.le_trans (Nat.le_trans (Nat.le_trans (Nat.le_trans (Nat.le_refl _) E1008.1) (Nat.le_of_eq W1011.size.symm)) (Nat.le_of_eq W1014.size.symm)) (Nat.le_of_eq W1018.size.symm)) E1021.1) K1076.1)
                    refine Go.ldcH (pc' := 268) (n := 60) (vs := [(.int (108 : Int32)), (.int (97 : Int32)), (.int (119 : Int32)), (.int (45 : Int32)), (.int (101 : Int32)), (.int (110 : Int32)), (.int (102 : Int32)), (.int (111 : Int32)), (.int (114 : Int32)), (.int (99 : Int32)), (.int (101 : Int32)), (.int (109 : Int32)), (.int (101 : Int32)), (.int (110 : Int32)), (.int (116 : Int32))]) (z := (15 : Int32)) C X1076 Si1082 (EWc hw) Hr1079.1 (tw hw 35 rfl) (wS hw) rfl (by decide) (by decide) (by decide) (by decide) (by decide) (by decide) (by decide) (by decide) at_266 rfl ?_
                    intro T1080 h1080 b1080 sC1080 v1080 k1080 C1080 X1080 e1080 Si1080 E1080 hR1080 A1080 F1080c F1080v B1080 hne1080
                    have Hr1083 := CHr.trans Hr1079 hR1080
                    have c1084 : Exa Z h1080 b1008 "[C" := (Exa.ext E1080 (Exa.keep (Exa.ext E1021 (Exa.wr W1018 c1020)) K1076))
                    have hx1080_b1008 := hne1080 b1008 (Safe.exa C1080.2.1.alike c1084 (by decide) (by decide))
                    have sa1085 : Safe Z consts_1 sC1080.vm h1080 b1021 := (CHr.safe hR1080 (Nat.lt_of_lt_of_le A1021.lt (Nat.le_trans (Nat.le_refl _) K1076.1)) (Safe.keep K1076 (allS s_b1021 all0) Hr1023.1 s_b1021))
                    have hx1080_b1021 := hne1080 b1021 sa1085
                    have sa1086 : Safe Z consts_1 sC1080.vm h1080 v_1076 := (CHr.safe hR1080 (Nat.lt_of_lt_of_le P1076_2.lt (Nat.le_refl _)) s_v_1076)
                    have hx1080_v_1076 := hne1080 v_1076 sa1086
                    have tx1087 : AL Z h1080 v1080 k1080 .byte (by8 leL) := leV ▸ B1080
                    refine Go.aload (pc' := 270) C1080 X1080 at_268 rfl rfl rfl ?_
                    have c1089 : Exa Z h1080 b1021 "java/lang/String" := (Exa.ext E1080 (Exa.keep A1021 K1076))
                    have c1090 : Fld Z h1080 b1021 "java/lang/String" "coder" "B" (.int (1 : Int32)) := (Fld.ext E1080 P1076_1)
                    have O1091 : Ext Z.heap h1080 := (Ext.trans O1081 E1080)
                    refine Go.callV (y := mN10) (z := mN10) (a := b1080) (pc' := 273) C1080 X1080 (tw hw 38 rfl) (tw hw 39 rfl) (notFace_at C1080.2.1 (tw hw 41 rfl)) (tw hw 41 rfl) (tw hw 40 rfl) A1080 (by decide) (rm_eqC l Z a0 hw b1080 b1021 cP h1080 O1091 SC A1080 F1080c c1089 c1090 (Ne.symm hx1080_b1021.1) hP) (tw hw 42 rfl) (tw hw 3 rfl) e1080 (argsL := [(.ref b1021)]) (rest := []) (W := 0) rfl rfl pd_10 rfl (Nat.le_of_eq rfl) rfl (by decide) (by decide) (by decide) (by decide) at_270 rfl ?_
                    intro T1088 v1088 L1088 X1088 q1088
                    obtain ⟨rfl, rfl, e1088⟩ := q1088
                    have N1088 := Fr.app N1076 (Fr.nil _)
                    refine Go.ifYes (pc' := 284) C1080 X1088 at_273 ((if0 _ _).trans (teq (x := (0 : Int32)) (y := (0 : Int32)) (by decide)).1) (by decide) (by decide) ?_
                    refine Go.ldcH (pc' := 286) (n := 68) (vs := [(.int (100 : Int32)), (.int (105 : Int32)), (.int (115 : Int32)), (.int (116 : Int32)), (.int (114 : Int32)), (.int (105 : Int32)), (.int (99 : Int32)), (.int (116 : Int32)), (.int (45 : Int32)), (.int (97 : Int32)), (.int (116 : Int32)), (.int (116 : Int32)), (.int (111 : Int32)), (.int (114 : Int32)), (.int (110 : Int32)), (.int (101 : Int32)), (.int (121 : Int32))]) (z := (17 : Int32)) C1080 X1088 Si1080 (EWc hw) Hr1083.1 (tw hw 76 rfl) (wS hw) e1088 (by decide) (by decide) (by decide) (by decide) (by decide) (by decide) (by decide) (by decide) at_284 rfl ?_
                    intro T1093 h1093 b1093 sC1093 v1093 k1093 C1093 X1093 e1093 Si1093 E1093 hR1093 A1093 F1093c F1093v B1093 hne1093
                    have Hr1094 := CHr.trans Hr1083 hR1093
                    have c1095 : Exa Z h1093 b1008 "[C" := (Exa.ext E1093 c1084)
                    have hx1093_b1008 := hne1093 b1008 (Safe.exa C1093.2.1.alike c1095 (by decide) (by decide))
                    have sa1096 : Safe Z consts_1 sC1093.vm h1093 b1021 := (CHr.safe hR1093 (Nat.lt_of_lt_of_le A1021.lt (Nat.le_trans (Nat.le_trans (Nat.le_refl _) K1076.1) E1080.1)) sa1085)
                    have hx1093_b1021 := hne1093 b1021 sa1096
                    have sa1097 : Safe Z consts_1 sC1093.vm h1093 v_1076 := (CHr.safe hR1093 (Nat.lt_of_lt_of_le P1076_2.lt (Nat.le_trans (Nat.le_refl _) E1080.1)) sa1086)
                    have hx1093_v_1076 := hne1093 v_1076 sa1097
                    have tx1098 : AL Z h1093 v1093 k1093 .byte (by8 daL) := daV ▸ B1093
                    refine Go.aload (pc' := 288) C1093 X1093 at_286 rfl rfl rfl ?_
                    have c1100 : Exa Z h1093 b1021 "java/lang/String" := (Exa.ext E1093 c1089)
                    have c1101 : Fld Z h1093 b1021 "java/lang/String" "coder" "B" (.int (1 : Int32)) := (Fld.ext E1093 c1090)
                    have O1102 : Ext Z.heap h1093 := (Ext.trans O1091 E1093)
                    refine Go.callV (y := mN10) (z := mN10) (a := b1093) (pc' := 291) C1093 X1093 (tw hw 38 rfl) (tw hw 39 rfl) (notFace_at C1093.2.1 (tw hw 41 rfl)) (tw hw 41 rfl) (tw hw 40 rfl) A1093 (by decide) (rm_eqC l Z a0 hw b1093 b1021 cP h1093 O1102 SC A1093 F1093c c1100 c1101 (Ne.symm hx1093_b1021.1) hP) (tw hw 42 rfl) (tw hw 3 rfl) e1093 (argsL := [(.ref b1021)]) (rest := []) (W := 0) rfl rfl pd_10 rfl (Nat.le_of_eq rfl) rfl (by decide) (by decide) (by decide) (by decide) at_288 rfl ?_
                    intro T1099 v1099 L1099 X1099 q1099
                    obtain ⟨rfl, rfl, e1099⟩ := q1099
                    have N1099 := Fr.app N1088 (Fr.nil _)
                    refine Go.ifYes (pc' := 302) C1093 X1099 at_291 ((if0 _ _).trans (teq (x := (0 : Int32)) (y := (0 : Int32)) (by decide)).1) (by decide) (by decide) ?_
                    refine Go.aconstNull (pc' := 303) C1093 X1099 at_302 rfl ?_
                    refine Go.astore (Ls' := #[.val (.int p1), .val (.int p2), .val (.int p3), .val (.int p4), .val (.int p5), .val (.int p6), .val (.int d6), .val (.int (p4 &&& (65535 : Int32))), .val (.int (p1 &&& (7 : Int32))), .val (.ref b1021), .val .null, .val (.ref b1008)]) (pc' := 305) C1093 X1099 at_303 rfl rfl rfl ?_
                    refine Go.aload (pc' := 307) C1093 X1099 at_305 rfl rfl rfl ?_
                    have ne1105 : tle ≠ b1021 := Nat.ne_of_lt (Nat.lt_of_lt_of_le (Nat.lt_of_lt_of_le le_0.lt O0.1) (Nat.le_trans (Nat.le_trans (Nat.le_trans (Nat.le_trans (Nat.le_trans (Nat.le_refl _) E1008.1) (Nat.le_of_eq W1011.size.symm)) (Nat.le_of_eq W1014.size.symm)) (Nat.le_of_eq W1018.size.symm)) (Nat.le_of_eq g1021.symm)))
                    have ne1106 : tda ≠ b1021 := Nat.ne_of_lt (Nat.lt_of_lt_of_le (Nat.lt_of_lt_of_le da_0.lt O0.1) (Nat.le_trans (Nat.le_trans (Nat.le_trans (Nat.le_trans (Nat.le_trans (Nat.le_refl _) E1008.1) (Nat.le_of_eq W1011.size.symm)) (Nat.le_of_eq W1014.size.symm)) (Nat.le_of_eq W1018.size.symm)) (Nat.le_of_eq g1021.symm)))
                    refine Go.callS (y := mN0) (pc' := 310) C1093 X1099 (tw hw 51 rfl) (tw hw 52 rfl) (by decide) (rm_nmUno l Z a0 hw va vk le0 tle lev lek da0 tda dav dak b1021 cP h1093 O1102 SV Ev Av Tle le_0 le_1 le_2 le_3 Tda da_0 da_1 da_2 da_3 c1100 c1101 SC hP ne1105 ne1106) (tw hw 53 rfl) (tw hw 49 rfl) e1099 (argsL := [(.ref b1021)]) (rest := []) (W := 0) rfl rfl pd_13 rfl (Nat.le_of_eq rfl) rfl (by decide) (by decide) (by decide) (by decide) at_307 rfl ?_
                    intro T1104 v1104 L1104 X1104 q1104
                    obtain ⟨rfl, N1104q, K1104⟩ := q1104
                    have N1104 := Fr.app N1099 N1104q
                    have Hr1107 := CHr.trans Hr1094 (CHr.keep K1104 all0 Hr1094.1)
                    refine Go.aload (pc' := 312) C1093 X1104 at_310 rfl rfl rfl ?_
                    refine Go.acmpNo (pc' := 315) C1093 X1104 at_312 rfl rfl (XT.aa_ne_f rfl) rfl ?_
                    refine Go.iconst (z := (1 : Int32)) (pc' := 316) C1093 X1104 at_315 rfl rfl ?_
                    refine Go.goto (pc' := 320) C1093 X1104 at_316 (by decide) (by decide) ?_
                    have K1108 : Keep h0 T1104.heap [] := ((((((((((Keep.refl h0 []).ext E1008).wr W1011 (Or.inr z_b1008)).wr W1014 (Or.inr z_b1008)).wr W1018 (Or.inr z_b1008)).ext E1021).trans K1076 (allS (Or.inr z_b1021) all0)).ext E1080).ext E1093).trans K1104 all0)
                    have Si1109 : Sin s sC1093 T1104.heap := Sin.mono Si1093 (Nat.le_trans (Nat.le_refl _) K1104.1)
                    exact Go.retNH C1093 X1104 Si1109 (EWc hw) Hr1107 rfl at_320 (by simp) ⟨rfl, N1104, K1108⟩ (by decide) (by decide)
  by_cases hc3_1110 : (p2 &&& (1 : Int32)) = (0 : Int32)
  · refine Go.ifYes (pc' := 10) C X0 at_3 ((if0 _ _).trans (teq (x := (p2 &&& (1 : Int32))) (y := (0 : Int32)) hc3_1110).1) (by decide) (by decide) ?_
    refine Go.iconst (z := (0 : Int32)) (pc' := 11) C X0 at_10 rfl rfl ?_
    exact K11 _ _ X0 e0 N0 (0 : Int32) 
  · refine Go.ifNo (pc' := 6) C X0 at_3 ((if0 _ _).trans (feq (x := (p2 &&& (1 : Int32))) (y := (0 : Int32)) hc3_1110).1) rfl ?_
    refine Go.iconst (z := (1 : Int32)) (pc' := 7) C X0 at_6 rfl rfl ?_
    refine Go.goto (pc' := 11) C X0 at_7 (by decide) (by decide) ?_
    exact K11 _ _ X0 e0 N0 (1 : Int32) 
theorem eqI_v {args : Array Value} {Z : State} {t : Term} {x n : Int32} (h : t.eval args Z none [] Z = some (.int x)) : (Jvm.Cond.eq t (.int n)).value args Z none Z [] = some (decide (x = n)) := by simp [Cond.value, Term.eval, h]
theorem own_eqI {args : Array Value} {Z : State} {t : Term} {n : Int32} (h : (Jvm.Cond.eq t (.int n)).value args Z none Z [] = some true) : t.eval args Z none [] Z = some (.int n) := by
  simp only [Cond.value, Term.eval] at h
  cases ht : t.eval args Z none [] Z with
  | none => simp [ht] at h
  | some x => cases x <;> simp [ht] at h ⊢; exact h
theorem own_eqR {args : Array Value} {Z : State} {t u : Term} {b : Addr} (h : (Jvm.Cond.eq t u).value args Z none Z [] = some true) (hu : u.eval args Z none [] Z = some (.ref b)) : t.eval args Z none [] Z = some (.ref b) := by
  simp only [Cond.value] at h
  cases ht : t.eval args Z none [] Z with
  | none => simp [ht] at h
  | some x => cases x <;> simp [ht, hu] at h ⊢; exact h
theorem own_len {args : Array Value} {Z : State} {t : Term} {a : Addr} {c : Cell} {ty : FieldType} {n : Int32} (ev : t.eval args Z none [] Z = some (.ref a)) (A : Arr Z Z.heap a c ty) (h : (Jvm.Cond.eq (.length t) (.int n)).value args Z none Z [] = some true) : c.slots.size = n.toNatClampNeg := by
  have e := own_eqI h
  obtain ⟨x, cell, e1, e2, e3⟩ := Term.length_spec e
  cases ev.symm.trans e1
  cases (IntBox.arrayAt_of A.1 A.2.1 A.2.2).symm.trans e2
  by_cases hl : c.slots.size < 2 ^ 31
  · rw [Value.int.inj e3, n32_nat hl]
  · simp [Term.eval, ev, e2, hl] at e
theorem own_at {args : Array Value} {Z : State} {t : Term} {a : Addr} {c : Cell} {ty : FieldType} {n : Int32} {v : Value} (ev : t.eval args Z none [] Z = some (.ref a)) (A : Arr Z Z.heap a c ty) (e : (Term.elem t (.int n)).eval args Z none [] Z = some v) : c.slots[n.toNatClampNeg]? = some v := by
  obtain ⟨x, j, cell, e1, e2, e3, -, e5⟩ := Term.elem_spec e
  cases ev.symm.trans e1
  cases (IntBox.arrayAt_of A.1 A.2.1 A.2.2).symm.trans e3
  have ej : n = j := by simp only [Term.eval, Option.some.injEq, Value.int.injEq] at e2; exact e2
  rw [ej]; exact e5
theorem own_alH {Z : State} {a : Addr} {c : Cell} {ty : FieldType} {vs : List Value} (A : Arr Z Z.heap a c ty) (hs : c.slots.size = vs.length) (H : HasL c 0 vs) : AL Z Z.heap a c.cls ty vs := by
  refine ⟨c, A, rfl, ?_⟩
  apply Array.ext_getElem?
  intro i
  by_cases hi : i < vs.length
  · have q := HasL.at (dv := .null) vs 0 H i hi
    rw [Nat.zero_add] at q
    rw [q]; simp [List.getD, List.getElem?_eq_getElem hi]
  · rw [Array.getElem?_eq_none (by omega)]; simp [List.getElem?_eq_none (by omega : vs.length ≤ i)]
theorem comes_1 {Post : Tables → Env → Array Value → State → Outcome → State → Prop} (hpost : ∀ tb e args s v u, (limb_1_1.after args s (.returned v) u = true ∧ limb_1_2.after args s (.returned v) u = true ∧ True) → ReturnedEndW s (.returned v) u (Jvm.fieldLocs frame_1_writes args s ++ Jvm.arrayLocs frame_1_arrays args s ++ Jvm.staticLocs frame_1_statics s) 24 3328 → Post tb e args s (.returned v) u) :
    ArmFor flags0 classFile x code maxLocals ret World_1 tables_1 room_1 Calls_1 rest_1 Pre_1 Post := by
  intro l hfl _ _ p e ha hc hk s m args below hf hA hF happ hP
  obtain ⟨hcalls, hrest, hpre⟩ := hP
  obtain ⟨-, -, -, hnamed, -, -, -, hat⟩ := (Spec.applies_iff hf).mp happ
  obtain ⟨hg, hn⟩ := and_e (Cond.before_iff.mp (show (Jvm.Cond.and given_1 narrow_1).before args s = true from hpre))
  obtain ⟨g1, g2⟩ := and_e hg
  obtain ⟨g3, g4⟩ := and_e g2
  obtain ⟨g5, g6⟩ := and_e g4
  obtain ⟨g7, g8⟩ := and_e g6
  obtain ⟨g9, g10⟩ := and_e g8
  obtain ⟨g11, g12⟩ := and_e g10
  obtain ⟨g13, g14⟩ := and_e hn
  obtain ⟨g15, g16⟩ := and_e g14
  obtain ⟨g17, g18⟩ := and_e g16
  obtain ⟨g19, g20⟩ := and_e g18
  obtain ⟨g21, g22⟩ := and_e g20
  obtain ⟨g23, g24⟩ := and_e g22
  obtain ⟨g25, g26⟩ := and_e g24
  obtain ⟨g27, g28⟩ := and_e g26
  obtain ⟨g29, g30⟩ := and_e g28
  obtain ⟨g31, g32⟩ := and_e g30
  obtain ⟨g33, g34⟩ := and_e g32
  obtain ⟨g35, g36⟩ := and_e g34
  obtain ⟨g37, g38⟩ := and_e g36
  obtain ⟨g39, g40⟩ := and_e g38
  obtain ⟨g41, g42⟩ := and_e g40
  obtain ⟨g43, g44⟩ := and_e g42
  obtain ⟨g45, g46⟩ := and_e g44
  obtain ⟨g47, g48⟩ := and_e g46
  obtain ⟨g49, g50⟩ := and_e g48
  obtain ⟨g51, g52⟩ := and_e g50
  obtain ⟨g53, g54⟩ := and_e g52
  obtain ⟨g55, g56⟩ := and_e g54
  obtain ⟨g57, g58⟩ := and_e g56
  obtain ⟨g59, g60⟩ := and_e g58
  obtain ⟨g61, g62⟩ := and_e g60
  obtain ⟨g63, g64⟩ := and_e g62
  obtain ⟨g65, g66⟩ := and_e g64
  obtain ⟨g67, g68⟩ := and_e g66
  obtain ⟨g69, g70⟩ := and_e g68
  obtain ⟨g71, g72⟩ := and_e g70
  obtain ⟨g73, g74⟩ := and_e g72
  obtain ⟨g75, g76⟩ := and_e g74
  obtain ⟨g77, g78⟩ := and_e g76
  obtain ⟨g79, g80⟩ := and_e g78
  obtain ⟨g81, g82⟩ := and_e g80
  obtain ⟨g83, g84⟩ := and_e g82
  obtain ⟨g85, g86⟩ := and_e g84
  obtain ⟨g87, g88⟩ := and_e g86
  obtain ⟨g89, g90⟩ := and_e g88
  obtain ⟨g91, g92⟩ := and_e g90
  obtain ⟨g93, g94⟩ := and_e g92
  obtain ⟨g95, g96⟩ := and_e g94
  obtain ⟨g97, g98⟩ := and_e g96
  obtain ⟨g99, g100⟩ := and_e g98
  obtain ⟨g101, g102⟩ := and_e g100
  obtain ⟨g103, g104⟩ := and_e g102
  obtain ⟨w0, w1, w2, w3, w4, w5, rfl⟩ : ∃ w0 w1 w2 w3 w4 w5 : Value, args = #[w0, w1, w2, w3, w4, w5] := by
    have hs : args.size = 6 := by simpa [Cond.value, given_1] using g1
    obtain ⟨L⟩ := args
    match L, hs with
    | [w0, w1, w2, w3, w4, w5], _ => exact ⟨w0, w1, w2, w3, w4, w5, rfl⟩
  have hw := fun d (hd : d ∈ tables_1) => atoms_spec (ws := Jvm.Cond.code x code maxLocals ret :: tables_1) hat d (List.mem_cons_of_mem _ hd)
  have hfit : Fit s := fun {y c} hc i hi => by
    obtain ⟨ha, rfl⟩ := Array.getElem?_eq_some_iff.mp hc
    have q := List.all_eq_true.mp ((Array.all_eq_true_iff_forall_mem.mp hF) _ (Array.getElem_mem ha)) i (List.mem_range.mpr hi)
    simpa [Array.getElem?_eq_getElem hi] using q
  obtain ⟨hsets, hown0⟩ := atoms_of _ (rest_1_c_eq ▸ (show rest_1_c.before _ s = true from hrest))
  obtain ⟨i0, ei0⟩ := is_v g3
  obtain rfl : w0 = (.int i0) := Option.some.inj ei0
  obtain ⟨i1, ei1⟩ := is_v g5
  obtain rfl : w1 = (.int i1) := Option.some.inj ei1
  obtain ⟨i2, ei2⟩ := is_v g7
  obtain rfl : w2 = (.int i2) := Option.some.inj ei2
  obtain ⟨i3, ei3⟩ := is_v g9
  obtain rfl : w3 = (.int i3) := Option.some.inj ei3
  obtain ⟨i4, ei4⟩ := is_v g11
  obtain rfl : w4 = (.int i4) := Option.some.inj ei4
  obtain ⟨i5, ei5⟩ := is_v g12
  obtain rfl : w5 = (.int i5) := Option.some.inj ei5
  obtain ⟨cP, vP⟩ := is_v (Cond.before_iff.mp (hsets _ (List.mem_of_getElem? (i := 1) rfl)))
  have SP := Sta.start vP (Or.inl (hsets _ (List.mem_of_getElem? (i := 0) rfl)))
  have hP : ¬ cP = (0 : Int32) := gotF (eqI_v vP) (not_v (Cond.before_iff.mp (hsets _ (List.mem_of_getElem? (i := 2) rfl))))
  have SHs := Sta.start (own_eqI (Cond.before_iff.mp (hsets _ (List.mem_of_getElem? (i := 15) rfl)))) (Or.inl (hsets _ (List.mem_of_getElem? (i := 14) rfl)))
  have SLs := Sta.start (own_eqI (Cond.before_iff.mp (hsets _ (List.mem_of_getElem? (i := 18) rfl)))) (Or.inl (hsets _ (List.mem_of_getElem? (i := 17) rfl)))
  have SAs := Sta.start (own_eqI (Cond.before_iff.mp (hsets _ (List.mem_of_getElem? (i := 12) rfl)))) (Or.inl (hsets _ (List.mem_of_getElem? (i := 11) rfl)))
  obtain ⟨ag105, vg105⟩ := exa_v g13
  have Sg105 := Sta.start vg105 (Or.inr ⟨(tw hw 49 rfl), (tw hw 50 rfl)⟩)
  have Eg105 := Exa.start vg105 g13
  obtain ⟨lex, vlex⟩ := exa_v g27
  have xle := Exa.start vlex g27
  have fle := vlex
  rw [fld_at vg105] at fle
  have tle := Fld.start fle
  have cle := own_eqI g29
  rw [fld_at vlex] at cle
  have dle := Fld.start cle
  obtain ⟨lew, vlew⟩ := arr_v g31
  obtain ⟨clle, rle⟩ := Arr.start vlew g31
  have gle := vlew
  rw [fld_at vlex] at gle
  have wle := Fld.start gle
  have ale : AL s s.heap lew clle.cls .byte (by8 leL) := leV ▸ own_alH (vs := [(.int (108 : Int32)), (.int (97 : Int32)), (.int (119 : Int32)), (.int (45 : Int32)), (.int (101 : Int32)), (.int (110 : Int32)), (.int (102 : Int32)), (.int (111 : Int32)), (.int (114 : Int32)), (.int (99 : Int32)), (.int (101 : Int32)), (.int (109 : Int32)), (.int (101 : Int32)), (.int (110 : Int32)), (.int (116 : Int32))]) rle (own_len vlew rle g33) ⟨own_at vlew rle (own_eqI g43), own_at vlew rle (own_eqI g45), own_at vlew rle (own_eqI g47), own_at vlew rle (own_eqI g49), own_at vlew rle (own_eqI g51), own_at vlew rle (own_eqI g53), own_at vlew rle (own_eqI g55), own_at vlew rle (own_eqI g57), own_at vlew rle (own_eqI g59), own_at vlew rle (own_eqI g61), own_at vlew rle (own_eqI g63), own_at vlew rle (own_eqI g65), own_at vlew rle (own_eqI g67), own_at vlew rle (own_eqI g69), own_at vlew rle (own_eqI g71), trivial⟩
  obtain ⟨ag106, vg106⟩ := exa_v g23
  have Sg106 := Sta.start vg106 (Or.inr ⟨(tw hw 49 rfl), (tw hw 66 rfl)⟩)
  have Eg106 := Exa.start vg106 g23
  obtain ⟨dax, vdax⟩ := exa_v g35
  have xda := Exa.start vdax g35
  have fda := vdax
  rw [fld_at vg106] at fda
  have tda := Fld.start fda
  have cda := own_eqI g37
  rw [fld_at vdax] at cda
  have dda := Fld.start cda
  obtain ⟨daw, vdaw⟩ := arr_v g39
  obtain ⟨clda, rda⟩ := Arr.start vdaw g39
  have gda := vdaw
  rw [fld_at vdax] at gda
  have wda := Fld.start gda
  have ada : AL s s.heap daw clda.cls .byte (by8 daL) := daV ▸ own_alH (vs := [(.int (100 : Int32)), (.int (105 : Int32)), (.int (115 : Int32)), (.int (116 : Int32)), (.int (114 : Int32)), (.int (105 : Int32)), (.int (99 : Int32)), (.int (116 : Int32)), (.int (45 : Int32)), (.int (97 : Int32)), (.int (116 : Int32)), (.int (116 : Int32)), (.int (111 : Int32)), (.int (114 : Int32)), (.int (110 : Int32)), (.int (101 : Int32)), (.int (121 : Int32))]) rda (own_len vdaw rda g41) ⟨own_at vdaw rda (own_eqI g73), own_at vdaw rda (own_eqI g75), own_at vdaw rda (own_eqI g77), own_at vdaw rda (own_eqI g79), own_at vdaw rda (own_eqI g81), own_at vdaw rda (own_eqI g83), own_at vdaw rda (own_eqI g85), own_at vdaw rda (own_eqI g87), own_at vdaw rda (own_eqI g89), own_at vdaw rda (own_eqI g91), own_at vdaw rda (own_eqI g93), own_at vdaw rda (own_eqI g95), own_at vdaw rda (own_eqI g97), own_at vdaw rda (own_eqI g99), own_at vdaw rda (own_eqI g101), own_at vdaw rda (own_eqI g103), own_at vdaw rda (own_eqI g104), trivial⟩
  obtain ⟨va, vva⟩ := exa_v g17
  have SVs := Sta.start vva (Or.inr ⟨(tw hw 49 rfl), (tw hw 58 rfl)⟩)
  have Evs := Exa.start vva g17
  obtain ⟨cv, rv⟩ := Arr.start vva g15
  have Avs : AL s s.heap va cv.cls (.object "com/example/bailiwick/bailiwick/Source") [(.ref ag105), (.ref ag106)] := own_alH rv (own_len vva rv g19) ⟨own_at vva rv (own_eqR g21 vg105), own_at vva rv (own_eqR g25 vg106), trivial⟩
  obtain ⟨n, o, h1, h2, h3, _, L, rfl, ⟨rfl, N, -⟩, -, hq⟩ := rm_law l s _ hw i0 i1 i2 i3 i4 i5 cP va cv.cls ag105 lex lew clle.cls ag106 dax daw clda.cls s.heap (Ext.refl _) SP SHs SLs SAs SVs Evs Avs tle xle wle dle ale tda xda wda dda ada Sg105 Sg106 hP tables_1 p e ha hc hk s m _ below hf ((Spec.applies_iff_loose hf).mp happ).1 ⟨rfl, State.Warmed39.refl s, rfl, CHv.start (EWc hw) (fun p hp => hcalls.1 p hp) (hsets _ (List.mem_of_getElem? (i := 2) rfl)) (tw hw 24 rfl) (tw hw 2 rfl), fun _ hx => nomatch hx⟩ trivial
  refine ⟨n, _, h1, h2, h3, hpost _ _ _ _ _ _ ⟨Cond.after_iff.mpr rfl, Cond.after_iff.mpr (eq_i res_at (Term.int_eval (1)) rfl), trivial⟩ ⟨hq.1, hq.2.1, hq.2.2.1, (hq.2.2.2.sift fun y hy => Or.inr (N y hy)).mono (by decide) (by decide)⟩⟩
theorem main_1_1 : Claimed_1_1 := comes_1 fun _ _ _ _ _ _ h hF => ⟨h.1, hF⟩
theorem main_1_2 : Claimed_1_2 := comes_1 fun _ _ _ _ _ _ h hF => ⟨h.2.1, hF⟩
end Jvm.Pilot.@@N@@
namespace Jvm.Pilot.@@N@@
open Jvm Jvm.ClassFile Sem Op Lib Jvm.Free Jvm.Stand Jvm.Pilot.@@N@@.Jvm.D
/-! MADE BY PROGRAM (witnessworld.py) out of the Statement's table words and the real class files: 22 classes; the members and pool entries that the words name. The judged class is class 1, her method 1. -/
namespace start1
open Jvm.ClassFile
def u (s : String) : CpInfo := .utf8 (stringToUtf16 s)
/-- a pool by its gaps: so many unusable entries, then the entry; so many at the end -/
def gap : Nat → List CpInfo → List CpInfo
  | 0, r => r
  | n + 1, r => .unusable :: gap n r
def poolList (es : List (Nat × CpInfo)) (last : Nat) : List CpInfo := es.foldr (fun e r => gap e.1 (e.2 :: r)) (gap last [])
def pool (es : List (Nat × CpInfo)) (last : Nat) : Array CpInfo := ⟨poolList es last⟩
def fileOf (pool : Array CpInfo) (this : Nat) (attrs : Array Attribute := #[]) (ms : Array MethodInfo := #[]) (fl : Nat := 33) (sup : Nat := 0) (ifs : Array Nat := #[]) (fds : Array FieldInfo := #[]) : ClassFile where
  minorVersion := 0
  majorVersion := 65
  constantPool := pool
  accessFlags := fl
  thisClass := this
  superClass := sup
  interfaces := ifs
  fields := fds
  methods := ms
  attributes := attrs
def plain (name : String) (sup : Option ClassId) : Class where
  name := name
  kind := .ordinary
  loader := none
  accessFlags := 33
  super := sup
  interfaces := #[]
  cf := none
  fields := #[]
  methods := #[]
  instanceTypes := #[]
  staticTypes := #[]
  resolved := #[]
  callSites := []
  init := .initialized
  statics := none
  mirror := none

def pool0 : Array CpInfo := pool [(5, u "<init>"), (0, u "()V"), (1, .class_ 10), (1, u "java/lang/Object"), (85, u "clone"), (0, u "()Ljava/lang/Object;")] 26

def k0c0 : Code := { maxStack := 0, maxLocals := 1, code := object_method_1_code, exceptionTable := #[], attributes := #[] }
def k0m0 : Method := { name := "<init>", desc := "()V", sig := { parameters := [], returnType := none }, accessFlags := 1, code := some k0c0 }
def k0m1 : Method := { name := "clone", desc := "()Ljava/lang/Object;", sig := { parameters := [], returnType := some (.object "java/lang/Object") }, accessFlags := 260, code := none }
/-- java/lang/Object -/
def k0 : Class := { plain "java/lang/Object" none with
  accessFlags := 33
  interfaces := #[]
  cf := some (fileOf pool0 8 #[] #[{ accessFlags := 1, nameIndex := 5, descriptorIndex := 6, attributes := #[] }, { accessFlags := 260, nameIndex := 96, descriptorIndex := 97, attributes := #[] }] 33 0 #[] #[])
  fields := #[]
  methods := #[k0m0, k0m1]
  instanceTypes := #[]
  staticTypes := #[]
  resolved := Array.replicate 124 none
  statics := none }

def pool1 : Array CpInfo := pool [(2, .class_ 4), (1, u "java/lang/Object"), (0, u "<init>"), (0, u "()V"), (0, .integer 65535), (0, .class_ 9), (0, u "java/lang/String"), (0, .methodref 11 12), (0, .class_ 13), (0, .nameAndType 14 15), (0, u "com/example/bailiwick/bailiwick/SourceNamedPinLaw"), (0, u "le"), (0, u "()[C"), (0, .methodref 8 17), (0, .nameAndType 5 18), (0, u "([C)V"), (0, .methodref 11 20), (0, .nameAndType 21 15), (0, u "da"), (0, .integer 2147483647), (0, .methodref 11 24), (0, .nameAndType 25 26), (0, u "daLonger"), (0, u "(C)[C"), (0, .methodref 11 28), (0, .nameAndType 29 26), (0, u "leLonger"), (0, .methodref 11 31), (0, .nameAndType 32 15), (0, u "daShorter"), (0, .methodref 11 34), (0, .nameAndType 35 15), (0, u "leShorter"), (0, .string 37), (0, u "law-enforcement"), (0, .methodref 8 39), (0, .nameAndType 40 41), (0, u "equals"), (0, u "(Ljava/lang/Object;)Z"), (0, .fieldref 43 44), (0, .class_ 45), (0, .nameAndType 46 47), (0, u "com/example/bailiwick/bailiwick/Source"), (0, u "LAW_ENFORCEMENT"), (0, u "Lcom/example/bailiwick/bailiwick/Source;"), (0, .string 49), (0, u "district-attorney"), (0, .fieldref 43 51), (0, .nameAndType 52 47), (0, u "DISTRICT_ATTORNEY"), (0, .methodref 43 54), (0, .nameAndType 55 56), (0, u "named"), (0, u "(Ljava/lang/String;)Lcom/example/bailiwick/bailiwick/Source;"), (2, u "law"), (0, u "(IIIIII)Z")] 5

def k1m0 : Method := { name := "<init>", desc := "()V", sig := { parameters := [], returnType := none }, accessFlags := 1, code := none }
def k1c1 : Code := { maxStack := 4, maxLocals := 12, code := code, exceptionTable := #[], attributes := #[] }
def k1m1 : Method := { name := "law", desc := "(IIIIII)Z", sig := { parameters := [.int, .int, .int, .int, .int, .int], returnType := some .boolean }, accessFlags := 9, code := some k1c1 }
def k1c2 : Code := { maxStack := 4, maxLocals := 0, code := method_3_code, exceptionTable := #[], attributes := #[] }
def k1m2 : Method := { name := "le", desc := "()[C", sig := { parameters := [], returnType := some (.array .char) }, accessFlags := 10, code := some k1c2 }
def k1c3 : Code := { maxStack := 4, maxLocals := 1, code := method_4_code, exceptionTable := #[], attributes := #[] }
def k1m3 : Method := { name := "leLonger", desc := "(C)[C", sig := { parameters := [.char], returnType := some (.array .char) }, accessFlags := 10, code := some k1c3 }
def k1c4 : Code := { maxStack := 4, maxLocals := 0, code := method_5_code, exceptionTable := #[], attributes := #[] }
def k1m4 : Method := { name := "leShorter", desc := "()[C", sig := { parameters := [], returnType := some (.array .char) }, accessFlags := 10, code := some k1c4 }
def k1c5 : Code := { maxStack := 4, maxLocals := 0, code := method_6_code, exceptionTable := #[], attributes := #[] }
def k1m5 : Method := { name := "da", desc := "()[C", sig := { parameters := [], returnType := some (.array .char) }, accessFlags := 10, code := some k1c5 }
def k1c6 : Code := { maxStack := 4, maxLocals := 1, code := method_7_code, exceptionTable := #[], attributes := #[] }
def k1m6 : Method := { name := "daLonger", desc := "(C)[C", sig := { parameters := [.char], returnType := some (.array .char) }, accessFlags := 10, code := some k1c6 }
def k1c7 : Code := { maxStack := 4, maxLocals := 0, code := method_8_code, exceptionTable := #[], attributes := #[] }
def k1m7 : Method := { name := "daShorter", desc := "()[C", sig := { parameters := [], returnType := some (.array .char) }, accessFlags := 10, code := some k1c7 }
/-- com/example/bailiwick/bailiwick/SourceNamedPinLaw -/
def k1 : Class := { plain "com/example/bailiwick/bailiwick/SourceNamedPinLaw" (some 0) with
  accessFlags := 49
  interfaces := #[]
  cf := some (fileOf pool1 11 #[] #[{ accessFlags := 1, nameIndex := 5, descriptorIndex := 6, attributes := #[] }, { accessFlags := 9, nameIndex := 59, descriptorIndex := 60, attributes := #[] }, { accessFlags := 10, nameIndex := 14, descriptorIndex := 15, attributes := #[] }, { accessFlags := 10, nameIndex := 29, descriptorIndex := 26, attributes := #[] }, { accessFlags := 10, nameIndex := 35, descriptorIndex := 15, attributes := #[] }, { accessFlags := 10, nameIndex := 21, descriptorIndex := 15, attributes := #[] }, { accessFlags := 10, nameIndex := 25, descriptorIndex := 26, attributes := #[] }, { accessFlags := 10, nameIndex := 32, descriptorIndex := 15, attributes := #[] }] 49 2 #[] #[])
  fields := #[]
  methods := #[k1m0, k1m1, k1m2, k1m3, k1m4, k1m5, k1m6, k1m7]
  instanceTypes := #[]
  staticTypes := #[]
  resolved := Array.replicate 66 none
  statics := none }

def pool2 : Array CpInfo := pool [(1, .class_ 2), (0, u "java/io/Serializable"), (0, .class_ 4), (0, u "java/lang/Object")] 2

/-- java/io/Serializable -/
def k2 : Class := { plain "java/io/Serializable" (some 0) with
  accessFlags := 1537
  interfaces := #[]
  cf := some (fileOf pool2 1 #[] #[] 1537 3 #[] #[])
  fields := #[]
  methods := #[]
  instanceTypes := #[]
  staticTypes := #[]
  resolved := Array.replicate 7 none
  statics := none }

def pool3 : Array CpInfo := pool [(1, .class_ 2), (0, u "java/lang/Comparable"), (0, .class_ 4), (0, u "java/lang/Object")] 7

/-- java/lang/Comparable -/
def k3 : Class := { plain "java/lang/Comparable" (some 0) with
  accessFlags := 1537
  interfaces := #[]
  cf := some (fileOf pool3 1 #[] #[] 1537 3 #[] #[])
  fields := #[]
  methods := #[]
  instanceTypes := #[]
  staticTypes := #[]
  resolved := Array.replicate 12 none
  statics := none }

def pool4 : Array CpInfo := pool [(2, .class_ 4), (1, u "java/lang/CharSequence"), (42, .class_ 48), (0, u "java/lang/CharSequence$1CodePointIterator"), (10, .class_ 60), (0, u "java/lang/CharSequence$1CharIterator"), (5, .class_ 67), (0, u "java/lang/Object")] 63

/-- java/lang/CharSequence -/
def k4 : Class := { plain "java/lang/CharSequence" (some 0) with
  accessFlags := 1537
  interfaces := #[]
  cf := some (fileOf pool4 2 #[.nestMembers #[47, 59]] #[] 1537 66 #[] #[])
  fields := #[]
  methods := #[]
  instanceTypes := #[]
  staticTypes := #[]
  resolved := Array.replicate 131 none
  statics := none }

def pool5 : Array CpInfo := pool [(1, .class_ 2), (0, u "java/lang/constant/Constable"), (0, .class_ 4), (0, u "java/lang/Object")] 6

/-- java/lang/constant/Constable -/
def k5 : Class := { plain "java/lang/constant/Constable" (some 0) with
  accessFlags := 1537
  interfaces := #[]
  cf := some (fileOf pool5 1 #[] #[] 1537 3 #[] #[])
  fields := #[]
  methods := #[]
  instanceTypes := #[]
  staticTypes := #[]
  resolved := Array.replicate 11 none
  statics := none }

def pool6 : Array CpInfo := pool [(1, .class_ 2), (0, u "java/lang/constant/ConstantDesc"), (0, .class_ 4), (0, u "java/lang/Object")] 32

/-- java/lang/constant/ConstantDesc -/
def k6 : Class := { plain "java/lang/constant/ConstantDesc" (some 0) with
  accessFlags := 1537
  interfaces := #[]
  cf := some (fileOf pool6 1 #[] #[] 1537 3 #[] #[])
  fields := #[]
  methods := #[]
  instanceTypes := #[]
  staticTypes := #[]
  resolved := Array.replicate 37 none
  statics := none }

def pool7 : Array CpInfo := pool [(1, .methodref 2 3), (0, .class_ 4), (0, .nameAndType 5 6), (0, u "java/lang/Object"), (0, u "<init>"), (0, u "()V"), (0, .string 8), (0, u ""), (0, .fieldref 10 11), (0, .class_ 12), (0, .nameAndType 13 14), (0, u "java/lang/String"), (0, u "value"), (0, u "[B"), (0, .fieldref 10 16), (0, .nameAndType 17 18), (0, u "coder"), (0, u "B"), (2, u "hash"), (0, u "I"), (2, u "hashIsZero"), (0, u "Z"), (0, .methodref 10 28), (0, .nameAndType 5 29), (0, u "([CIILjava/lang/Void;)V"), (8, .fieldref 10 39), (0, .nameAndType 40 26), (0, u "COMPACT_STRINGS"), (1, .class_ 44), (1, u "java/lang/StringUTF16"), (0, u "compress"), (1, .methodref 42 48), (0, .nameAndType 49 50), (0, u "coderFromArrayLen"), (0, u "([BI)B"), (56, .class_ 109), (1, u "java/lang/StringLatin1"), (67, .methodref 42 178), (0, .nameAndType 45 179), (0, u "([CII)[B"), (361, .methodref 107 542), (0, .nameAndType 543 544), (0, u "equals"), (0, u "([B[B)Z"), (28, u "(Ljava/lang/Object;)Z"), (1, .class_ 576), (0, u "java/lang/CharSequence"), (22, u "CASE_INSENSITIVE_ORDER"), (0, u "Ljava/util/Comparator;"), (409, u "([C)V"), (90, u "serialPersistentFields"), (0, u "[Ljava/io/ObjectStreamField;"), (0, .class_ 1104), (0, u "java/lang/String$CaseInsensitiveComparator"), (1, .class_ 1107), (0, u "java/io/Serializable"), (0, .class_ 1109), (0, u "java/lang/Comparable"), (0, .class_ 1111), (0, u "java/lang/constant/Constable"), (0, .class_ 1113), (0, u "java/lang/constant/ConstantDesc"), (2, u "serialVersionUID"), (0, u "J"), (3, u "REPL"), (0, u "C"), (2, u "LATIN1"), (1, u "UTF16")] 323

def k7m0 : Method := { name := "<init>", desc := "()V", sig := { parameters := [], returnType := none }, accessFlags := 1, code := none }
def k7c1 : Code := { maxStack := 5, maxLocals := 2, code := jdk_42_method_3_code, exceptionTable := #[], attributes := #[] }
def k7m1 : Method := { name := "<init>", desc := "([C)V", sig := { parameters := [(.array .char)], returnType := none }, accessFlags := 1, code := some k7c1 }
def k7c2 : Code := { maxStack := 2, maxLocals := 3, code := jdk_42_method_66_code, exceptionTable := #[], attributes := #[] }
def k7m2 : Method := { name := "equals", desc := "(Ljava/lang/Object;)Z", sig := { parameters := [(.object "java/lang/Object")], returnType := some .boolean }, accessFlags := 1, code := some k7c2 }
def k7c3 : Code := { maxStack := 4, maxLocals := 6, code := jdk_42_method_149_code, exceptionTable := #[], attributes := #[] }
def k7m3 : Method := { name := "<init>", desc := "([CIILjava/lang/Void;)V", sig := { parameters := [(.array .char), .int, .int, (.object "java/lang/Void")], returnType := none }, accessFlags := 2, code := some k7c3 }
/-- java/lang/String -/
def k7 : Class := { plain "java/lang/String" (some 0) with
  accessFlags := 49
  interfaces := #[2, 3, 4, 5, 6]
  cf := some (fileOf pool7 10 #[.nestMembers #[1103]] #[{ accessFlags := 1, nameIndex := 5, descriptorIndex := 6, attributes := #[] }, { accessFlags := 1, nameIndex := 5, descriptorIndex := 1010, attributes := #[] }, { accessFlags := 1, nameIndex := 543, descriptorIndex := 573, attributes := #[] }, { accessFlags := 2, nameIndex := 5, descriptorIndex := 29, attributes := #[] }] 49 2 #[1106, 1108, 575, 1110, 1112] #[{ accessFlags := 18, nameIndex := 13, descriptorIndex := 14, attributes := #[] }, { accessFlags := 18, nameIndex := 17, descriptorIndex := 18, attributes := #[] }, { accessFlags := 2, nameIndex := 21, descriptorIndex := 22, attributes := #[] }, { accessFlags := 2, nameIndex := 25, descriptorIndex := 26, attributes := #[] }, { accessFlags := 26, nameIndex := 1116, descriptorIndex := 1117, attributes := #[] }, { accessFlags := 24, nameIndex := 40, descriptorIndex := 26, attributes := #[] }, { accessFlags := 26, nameIndex := 1101, descriptorIndex := 1102, attributes := #[] }, { accessFlags := 26, nameIndex := 1121, descriptorIndex := 1122, attributes := #[] }, { accessFlags := 25, nameIndex := 599, descriptorIndex := 600, attributes := #[] }, { accessFlags := 24, nameIndex := 1125, descriptorIndex := 18, attributes := #[] }, { accessFlags := 24, nameIndex := 1127, descriptorIndex := 18, attributes := #[] }])
  fields := #[{ name := "value", type := (.array .byte), accessFlags := 18, slot := 0, constantValue := 0 }, { name := "coder", type := .byte, accessFlags := 18, slot := 1, constantValue := 0 }, { name := "hash", type := .int, accessFlags := 2, slot := 2, constantValue := 0 }, { name := "hashIsZero", type := .boolean, accessFlags := 2, slot := 3, constantValue := 0 }, { name := "serialVersionUID", type := .long, accessFlags := 26, slot := 0, constantValue := 0 }, { name := "COMPACT_STRINGS", type := .boolean, accessFlags := 24, slot := 1, constantValue := 0 }, { name := "serialPersistentFields", type := (.array (.object "java/io/ObjectStreamField")), accessFlags := 26, slot := 2, constantValue := 0 }, { name := "REPL", type := .char, accessFlags := 26, slot := 3, constantValue := 0 }, { name := "CASE_INSENSITIVE_ORDER", type := (.object "java/util/Comparator"), accessFlags := 25, slot := 4, constantValue := 0 }, { name := "LATIN1", type := .byte, accessFlags := 24, slot := 5, constantValue := 0 }, { name := "UTF16", type := .byte, accessFlags := 24, slot := 6, constantValue := 0 }]
  methods := #[k7m0, k7m1, k7m2, k7m3]
  instanceTypes := #[(.array .byte), .byte, .int, .boolean]
  staticTypes := #[.long, .boolean, (.array (.object "java/io/ObjectStreamField")), .char, (.object "java/util/Comparator"), .byte, .byte]
  resolved := Array.replicate 1451 none
  statics := some 0 }

def pool8 : Array CpInfo := pool [(6, .class_ 8), (1, u "java/lang/Object"), (0, u "<init>"), (0, u "()V"), (0, .methodref 12 13), (0, .class_ 14), (0, .nameAndType 15 16), (0, u "java/lang/StringUTF16"), (0, u "newBytesLength"), (0, u "(I)I"), (3, .integer 1073741823), (23, .fieldref 12 45), (0, .nameAndType 46 47), (0, u "$assertionsDisabled"), (0, u "Z"), (11, .fieldref 12 60), (0, .nameAndType 61 62), (0, u "HI_BYTE_SHIFT"), (0, u "I"), (0, .fieldref 12 64), (0, .nameAndType 65 62), (0, u "LO_BYTE_SHIFT"), (5, .methodref 12 72), (0, .nameAndType 73 74), (0, u "getChar"), (0, u "([BI)C"), (32, .methodref 12 108), (0, .nameAndType 109 110), (0, u "newBytesFor"), (0, u "(I)[B"), (0, .methodref 12 112), (0, .nameAndType 113 114), (0, u "putChar"), (0, u "([BII)V"), (0, .methodref 12 116), (0, .nameAndType 117 118), (0, u "compress"), (0, u "([CI[BII)I"), (0, .methodref 12 120), (0, .nameAndType 121 122), (0, u "toBytes"), (0, u "([CII)[B"), (138, u "coderFromArrayLen"), (0, u "([BI)B"), (106, .class_ 371), (1, u "java/lang/StringUTF16$LinesSpliterator"), (58, u "MAX_LENGTH"), (196, .class_ 628), (0, u "java/lang/StringUTF16$CodePointsSpliterator"), (0, .class_ 630), (0, u "java/lang/StringUTF16$CharsSpliterator")] 4

def k8m0 : Method := { name := "<init>", desc := "()V", sig := { parameters := [], returnType := none }, accessFlags := 0, code := none }
def k8c1 : Code := { maxStack := 1, maxLocals := 1, code := jdk_52_method_2_code, exceptionTable := #[], attributes := #[] }
def k8m1 : Method := { name := "newBytesFor", desc := "(I)[B", sig := { parameters := [.int], returnType := some (.array .byte) }, accessFlags := 9, code := some k8c1 }
def k8c2 : Code := { maxStack := 4, maxLocals := 1, code := jdk_52_method_3_code, exceptionTable := #[], attributes := #[] }
def k8m2 : Method := { name := "newBytesLength", desc := "(I)I", sig := { parameters := [.int], returnType := some .int }, accessFlags := 9, code := some k8c2 }
def k8c3 : Code := { maxStack := 4, maxLocals := 3, code := jdk_52_method_4_code, exceptionTable := #[], attributes := #[] }
def k8m3 : Method := { name := "putChar", desc := "([BII)V", sig := { parameters := [(.array .byte), .int, .int], returnType := none }, accessFlags := 8, code := some k8c3 }
def k8c4 : Code := { maxStack := 3, maxLocals := 2, code := jdk_52_method_5_code, exceptionTable := #[], attributes := #[] }
def k8m4 : Method := { name := "getChar", desc := "([BI)C", sig := { parameters := [(.array .byte), .int], returnType := some .char }, accessFlags := 8, code := some k8c4 }
def k8c5 : Code := { maxStack := 4, maxLocals := 5, code := jdk_52_method_14_code, exceptionTable := #[], attributes := #[] }
def k8m5 : Method := { name := "toBytes", desc := "([CII)[B", sig := { parameters := [(.array .char), .int, .int], returnType := some (.array .byte) }, accessFlags := 9, code := some k8c5 }
def k8c6 : Code := { maxStack := 2, maxLocals := 2, code := jdk_52_method_15_code, exceptionTable := #[], attributes := #[] }
def k8m6 : Method := { name := "coderFromArrayLen", desc := "([BI)B", sig := { parameters := [(.array .byte), .int], returnType := some .byte }, accessFlags := 8, code := some k8c6 }
def k8c7 : Code := { maxStack := 5, maxLocals := 6, code := jdk_52_method_16_code, exceptionTable := #[], attributes := #[] }
def k8m7 : Method := { name := "compress", desc := "([CII)[B", sig := { parameters := [(.array .char), .int, .int], returnType := some (.array .byte) }, accessFlags := 9, code := some k8c7 }
def k8c8 : Code := { maxStack := 3, maxLocals := 7, code := jdk_52_method_21_code, exceptionTable := #[], attributes := #[] }
def k8m8 : Method := { name := "compress", desc := "([CI[BII)I", sig := { parameters := [(.array .char), .int, (.array .byte), .int, .int], returnType := some .int }, accessFlags := 9, code := some k8c8 }
/-- java/lang/StringUTF16 -/
def k8 : Class := { plain "java/lang/StringUTF16" (some 0) with
  accessFlags := 48
  interfaces := #[]
  cf := some (fileOf pool8 12 #[.nestMembers #[627, 629, 369]] #[{ accessFlags := 0, nameIndex := 9, descriptorIndex := 10, attributes := #[] }, { accessFlags := 9, nameIndex := 109, descriptorIndex := 110, attributes := #[] }, { accessFlags := 9, nameIndex := 15, descriptorIndex := 16, attributes := #[] }, { accessFlags := 8, nameIndex := 113, descriptorIndex := 114, attributes := #[] }, { accessFlags := 8, nameIndex := 73, descriptorIndex := 74, attributes := #[] }, { accessFlags := 9, nameIndex := 121, descriptorIndex := 122, attributes := #[] }, { accessFlags := 8, nameIndex := 261, descriptorIndex := 262, attributes := #[] }, { accessFlags := 9, nameIndex := 117, descriptorIndex := 122, attributes := #[] }, { accessFlags := 9, nameIndex := 117, descriptorIndex := 118, attributes := #[] }] 48 6 #[] #[{ accessFlags := 26, nameIndex := 61, descriptorIndex := 62, attributes := #[] }, { accessFlags := 26, nameIndex := 65, descriptorIndex := 62, attributes := #[] }, { accessFlags := 24, nameIndex := 430, descriptorIndex := 62, attributes := #[] }, { accessFlags := 4120, nameIndex := 46, descriptorIndex := 47, attributes := #[] }])
  fields := #[{ name := "HI_BYTE_SHIFT", type := .int, accessFlags := 26, slot := 0, constantValue := 0 }, { name := "LO_BYTE_SHIFT", type := .int, accessFlags := 26, slot := 1, constantValue := 0 }, { name := "MAX_LENGTH", type := .int, accessFlags := 24, slot := 2, constantValue := 0 }, { name := "$assertionsDisabled", type := .boolean, accessFlags := 4120, slot := 3, constantValue := 0 }]
  methods := #[k8m0, k8m1, k8m2, k8m3, k8m4, k8m5, k8m6, k8m7, k8m8]
  instanceTypes := #[]
  staticTypes := #[.int, .int, .int, .boolean]
  resolved := Array.replicate 635 none
  statics := some 1 }

def pool9 : Array CpInfo := pool [(4, .class_ 6), (1, u "java/lang/Object"), (0, u "<init>"), (0, u "()V"), (5, .class_ 16), (1, u "java/lang/StringLatin1"), (104, u "$assertionsDisabled"), (0, u "Z"), (98, .class_ 223), (1, u "java/lang/StringLatin1$LinesSpliterator"), (57, u "equals"), (0, u "([B[B)Z"), (107, .class_ 391), (0, u "java/lang/StringLatin1$CharsSpliterator")] 3

def k9m0 : Method := { name := "<init>", desc := "()V", sig := { parameters := [], returnType := none }, accessFlags := 0, code := none }
def k9c1 : Code := { maxStack := 3, maxLocals := 3, code := jdk_43_method_13_code, exceptionTable := #[], attributes := #[] }
def k9m1 : Method := { name := "equals", desc := "([B[B)Z", sig := { parameters := [(.array .byte), (.array .byte)], returnType := some .boolean }, accessFlags := 9, code := some k9c1 }
/-- java/lang/StringLatin1 -/
def k9 : Class := { plain "java/lang/StringLatin1" (some 0) with
  accessFlags := 48
  interfaces := #[]
  cf := some (fileOf pool9 14 #[.nestMembers #[390, 221]] #[{ accessFlags := 0, nameIndex := 7, descriptorIndex := 8, attributes := #[] }, { accessFlags := 9, nameIndex := 281, descriptorIndex := 282, attributes := #[] }] 48 4 #[] #[{ accessFlags := 4120, nameIndex := 121, descriptorIndex := 122, attributes := #[] }])
  fields := #[{ name := "$assertionsDisabled", type := .boolean, accessFlags := 4120, slot := 0, constantValue := 0 }]
  methods := #[k9m0, k9m1]
  instanceTypes := #[]
  staticTypes := #[.boolean]
  resolved := Array.replicate 395 none
  statics := none }

def pool10 : Array CpInfo := pool [(2, .class_ 4), (1, u "java/lang/Enum"), (0, u "name"), (0, u "Ljava/lang/String;"), (2, u "ordinal"), (0, u "I"), (1, .class_ 14), (1, u "java/lang/Object"), (4, u "hash"), (86, .class_ 108), (1, u "java/lang/Enum$EnumDesc"), (2, .class_ 112), (0, u "java/lang/constant/Constable"), (0, .class_ 114), (0, u "java/lang/Comparable"), (0, .class_ 116), (0, u "java/io/Serializable")] 87

/-- java/lang/Enum -/
def k10 : Class := { plain "java/lang/Enum" (some 0) with
  accessFlags := 1057
  interfaces := #[5, 3, 2]
  cf := some (fileOf pool10 2 #[.nestMembers #[106]] #[] 1057 12 #[111, 113, 115] #[{ accessFlags := 18, nameIndex := 5, descriptorIndex := 6, attributes := #[] }, { accessFlags := 18, nameIndex := 9, descriptorIndex := 10, attributes := #[] }, { accessFlags := 2, nameIndex := 19, descriptorIndex := 10, attributes := #[] }])
  fields := #[{ name := "name", type := (.object "java/lang/String"), accessFlags := 18, slot := 0, constantValue := 0 }, { name := "ordinal", type := .int, accessFlags := 18, slot := 1, constantValue := 0 }, { name := "hash", type := .int, accessFlags := 2, slot := 2, constantValue := 0 }]
  methods := #[]
  instanceTypes := #[(.object "java/lang/String"), .int, .int]
  staticTypes := #[]
  resolved := Array.replicate 204 none
  statics := none }

def pool11 : Array CpInfo := pool [(1, .class_ 2), (0, u "com/example/bailiwick/bailiwick/Source"), (2, u "LAW_ENFORCEMENT"), (0, u "Lcom/example/bailiwick/bailiwick/Source;"), (2, u "DISTRICT_ATTORNEY"), (0, .fieldref 1 11), (0, .nameAndType 12 13), (0, u "$VALUES"), (0, u "[Lcom/example/bailiwick/bailiwick/Source;"), (0, .methodref 15 16), (0, .class_ 13), (0, .nameAndType 17 18), (0, u "clone"), (0, u "()Ljava/lang/Object;"), (1, .class_ 22), (1, u "java/lang/Enum"), (6, .fieldref 1 30), (0, .nameAndType 31 32), (0, u "text"), (0, u "Ljava/lang/String;"), (0, .methodref 1 34), (0, .nameAndType 35 36), (0, u "values"), (0, u "()[Lcom/example/bailiwick/bailiwick/Source;"), (0, .methodref 38 39), (0, .class_ 40), (0, .nameAndType 41 42), (0, u "java/lang/String"), (0, u "equals"), (0, u "(Ljava/lang/Object;)Z"), (14, u "(Ljava/lang/String;)Lcom/example/bailiwick/bailiwick/Source;"), (3, u "named")] 7

def k11c0 : Code := { maxStack := 1, maxLocals := 0, code := prog_38_method_1_code, exceptionTable := #[], attributes := #[] }
def k11m0 : Method := { name := "values", desc := "()[Lcom/example/bailiwick/bailiwick/Source;", sig := { parameters := [], returnType := some (.array (.object "com/example/bailiwick/bailiwick/Source")) }, accessFlags := 9, code := some k11c0 }
def k11c1 : Code := { maxStack := 2, maxLocals := 6, code := prog_38_method_4_code, exceptionTable := #[], attributes := #[] }
def k11m1 : Method := { name := "named", desc := "(Ljava/lang/String;)Lcom/example/bailiwick/bailiwick/Source;", sig := { parameters := [(.object "java/lang/String")], returnType := some (.object "com/example/bailiwick/bailiwick/Source") }, accessFlags := 8, code := some k11c1 }
/-- com/example/bailiwick/bailiwick/Source -/
def k11 : Class := { plain "com/example/bailiwick/bailiwick/Source" (some 10) with
  accessFlags := 16433
  interfaces := #[]
  cf := some (fileOf pool11 1 #[] #[{ accessFlags := 9, nameIndex := 35, descriptorIndex := 36, attributes := #[] }, { accessFlags := 8, nameIndex := 61, descriptorIndex := 57, attributes := #[] }] 16433 20 #[] #[{ accessFlags := 16409, nameIndex := 5, descriptorIndex := 6, attributes := #[] }, { accessFlags := 16409, nameIndex := 9, descriptorIndex := 6, attributes := #[] }, { accessFlags := 18, nameIndex := 31, descriptorIndex := 32, attributes := #[] }, { accessFlags := 4122, nameIndex := 12, descriptorIndex := 13, attributes := #[] }])
  fields := #[{ name := "LAW_ENFORCEMENT", type := (.object "com/example/bailiwick/bailiwick/Source"), accessFlags := 16409, slot := 0, constantValue := 0 }, { name := "DISTRICT_ATTORNEY", type := (.object "com/example/bailiwick/bailiwick/Source"), accessFlags := 16409, slot := 1, constantValue := 0 }, { name := "text", type := (.object "java/lang/String"), accessFlags := 18, slot := 3, constantValue := 0 }, { name := "$VALUES", type := (.array (.object "com/example/bailiwick/bailiwick/Source")), accessFlags := 4122, slot := 2, constantValue := 0 }]
  methods := #[k11m0, k11m1]
  instanceTypes := #[(.object "java/lang/String"), .int, .int, (.object "java/lang/String")]
  staticTypes := #[(.object "com/example/bailiwick/bailiwick/Source"), (.object "com/example/bailiwick/bailiwick/Source"), (.array (.object "com/example/bailiwick/bailiwick/Source"))]
  resolved := Array.replicate 69 none
  statics := some 2 }

def pool12 : Array CpInfo := pool [(1, .class_ 2), (0, u "java/lang/Cloneable"), (0, .class_ 4), (0, u "java/lang/Object")] 2

/-- java/lang/Cloneable -/
def k12 : Class := { plain "java/lang/Cloneable" (some 0) with
  accessFlags := 1537
  interfaces := #[]
  cf := some (fileOf pool12 1 #[] #[] 1537 3 #[] #[])
  fields := #[]
  methods := #[]
  instanceTypes := #[]
  staticTypes := #[]
  resolved := Array.replicate 7 none
  statics := none }

def pool13 : Array CpInfo := pool [(2, .class_ 4), (1, u "java/lang/Object"), (0, u "<init>"), (0, u "()V"), (17, .class_ 26), (1, u "jdk/internal/util/Preconditions"), (28, .class_ 56), (0, u "jdk/internal/util/Preconditions$4"), (57, .class_ 115), (0, u "jdk/internal/util/Preconditions$1"), (7, u "SIOOBE_FORMATTER"), (0, u "Ljava/util/function/BiFunction;"), (0, .class_ 126), (0, u "jdk/internal/util/Preconditions$2"), (3, u "AIOOBE_FORMATTER"), (0, .class_ 132), (0, u "jdk/internal/util/Preconditions$3"), (3, u "IOOBE_FORMATTER")] 57

def k13m0 : Method := { name := "<init>", desc := "()V", sig := { parameters := [], returnType := none }, accessFlags := 1, code := none }
/-- jdk/internal/util/Preconditions -/
def k13 : Class := { plain "jdk/internal/util/Preconditions" (some 0) with
  accessFlags := 33
  interfaces := #[]
  cf := some (fileOf pool13 24 #[.nestMembers #[55, 131, 125, 114]] #[{ accessFlags := 1, nameIndex := 5, descriptorIndex := 6, attributes := #[] }] 33 2 #[] #[{ accessFlags := 25, nameIndex := 123, descriptorIndex := 124, attributes := #[] }, { accessFlags := 25, nameIndex := 130, descriptorIndex := 124, attributes := #[] }, { accessFlags := 25, nameIndex := 136, descriptorIndex := 124, attributes := #[] }])
  fields := #[{ name := "SIOOBE_FORMATTER", type := (.object "java/util/function/BiFunction"), accessFlags := 25, slot := 0, constantValue := 0 }, { name := "AIOOBE_FORMATTER", type := (.object "java/util/function/BiFunction"), accessFlags := 25, slot := 1, constantValue := 0 }, { name := "IOOBE_FORMATTER", type := (.object "java/util/function/BiFunction"), accessFlags := 25, slot := 2, constantValue := 0 }]
  methods := #[k13m0]
  instanceTypes := #[]
  staticTypes := #[(.object "java/util/function/BiFunction"), (.object "java/util/function/BiFunction"), (.object "java/util/function/BiFunction")]
  resolved := Array.replicate 194 none
  statics := some 3 }

def pool14 : Array CpInfo := pool [(9, u "<init>"), (6, .class_ 18), (1, u "java/lang/Object"), (0, u "()V"), (1, .class_ 23), (1, u "jdk/internal/util/ArraysSupport"), (0, u "LOG2_ARRAY_LONG_INDEX_SCALE"), (0, u "I"), (2, u "U"), (0, u "Ljdk/internal/misc/Unsafe;"), (8, u "BIG_ENDIAN"), (0, u "Z"), (8, u "LOG2_BYTE_BIT_SIZE"), (4, u "LOG2_ARRAY_INT_INDEX_SCALE"), (54, u "JLA"), (0, u "Ljdk/internal/access/JavaLangAccess;"), (11, u "LOG2_ARRAY_BOOLEAN_INDEX_SCALE"), (9, u "LOG2_ARRAY_BYTE_INDEX_SCALE"), (5, u "LOG2_ARRAY_CHAR_INDEX_SCALE"), (5, u "LOG2_ARRAY_SHORT_INDEX_SCALE"), (18, u "LOG2_ARRAY_FLOAT_INDEX_SCALE"), (24, u "LOG2_ARRAY_DOUBLE_INDEX_SCALE"), (89, u "T_BOOLEAN"), (2, u "T_CHAR"), (1, u "T_FLOAT"), (1, u "T_DOUBLE"), (1, u "T_BYTE"), (1, u "T_SHORT"), (1, u "T_INT"), (1, u "T_LONG"), (1, u "SOFT_MAX_ARRAY_LENGTH")] 83

def k14m0 : Method := { name := "<init>", desc := "()V", sig := { parameters := [], returnType := none }, accessFlags := 2, code := none }
/-- jdk/internal/util/ArraysSupport -/
def k14 : Class := { plain "jdk/internal/util/ArraysSupport" (some 0) with
  accessFlags := 33
  interfaces := #[]
  cf := some (fileOf pool14 21 #[] #[{ accessFlags := 2, nameIndex := 9, descriptorIndex := 19, attributes := #[] }] 33 16 #[] #[{ accessFlags := 24, nameIndex := 28, descriptorIndex := 29, attributes := #[] }, { accessFlags := 26, nameIndex := 38, descriptorIndex := 39, attributes := #[] }, { accessFlags := 25, nameIndex := 121, descriptorIndex := 25, attributes := #[] }, { accessFlags := 25, nameIndex := 131, descriptorIndex := 25, attributes := #[] }, { accessFlags := 25, nameIndex := 137, descriptorIndex := 25, attributes := #[] }, { accessFlags := 25, nameIndex := 143, descriptorIndex := 25, attributes := #[] }, { accessFlags := 25, nameIndex := 53, descriptorIndex := 25, attributes := #[] }, { accessFlags := 25, nameIndex := 24, descriptorIndex := 25, attributes := #[] }, { accessFlags := 25, nameIndex := 162, descriptorIndex := 25, attributes := #[] }, { accessFlags := 25, nameIndex := 187, descriptorIndex := 25, attributes := #[] }, { accessFlags := 26, nameIndex := 48, descriptorIndex := 25, attributes := #[] }, { accessFlags := 25, nameIndex := 277, descriptorIndex := 25, attributes := #[] }, { accessFlags := 25, nameIndex := 280, descriptorIndex := 25, attributes := #[] }, { accessFlags := 25, nameIndex := 282, descriptorIndex := 25, attributes := #[] }, { accessFlags := 25, nameIndex := 284, descriptorIndex := 25, attributes := #[] }, { accessFlags := 25, nameIndex := 286, descriptorIndex := 25, attributes := #[] }, { accessFlags := 25, nameIndex := 288, descriptorIndex := 25, attributes := #[] }, { accessFlags := 25, nameIndex := 290, descriptorIndex := 25, attributes := #[] }, { accessFlags := 25, nameIndex := 292, descriptorIndex := 25, attributes := #[] }, { accessFlags := 26, nameIndex := 108, descriptorIndex := 109, attributes := #[] }, { accessFlags := 25, nameIndex := 294, descriptorIndex := 25, attributes := #[] }])
  fields := #[{ name := "U", type := (.object "jdk/internal/misc/Unsafe"), accessFlags := 24, slot := 0, constantValue := 0 }, { name := "BIG_ENDIAN", type := .boolean, accessFlags := 26, slot := 1, constantValue := 0 }, { name := "LOG2_ARRAY_BOOLEAN_INDEX_SCALE", type := .int, accessFlags := 25, slot := 2, constantValue := 0 }, { name := "LOG2_ARRAY_BYTE_INDEX_SCALE", type := .int, accessFlags := 25, slot := 3, constantValue := 0 }, { name := "LOG2_ARRAY_CHAR_INDEX_SCALE", type := .int, accessFlags := 25, slot := 4, constantValue := 0 }, { name := "LOG2_ARRAY_SHORT_INDEX_SCALE", type := .int, accessFlags := 25, slot := 5, constantValue := 0 }, { name := "LOG2_ARRAY_INT_INDEX_SCALE", type := .int, accessFlags := 25, slot := 6, constantValue := 0 }, { name := "LOG2_ARRAY_LONG_INDEX_SCALE", type := .int, accessFlags := 25, slot := 7, constantValue := 0 }, { name := "LOG2_ARRAY_FLOAT_INDEX_SCALE", type := .int, accessFlags := 25, slot := 8, constantValue := 0 }, { name := "LOG2_ARRAY_DOUBLE_INDEX_SCALE", type := .int, accessFlags := 25, slot := 9, constantValue := 0 }, { name := "LOG2_BYTE_BIT_SIZE", type := .int, accessFlags := 26, slot := 10, constantValue := 0 }, { name := "T_BOOLEAN", type := .int, accessFlags := 25, slot := 11, constantValue := 0 }, { name := "T_CHAR", type := .int, accessFlags := 25, slot := 12, constantValue := 0 }, { name := "T_FLOAT", type := .int, accessFlags := 25, slot := 13, constantValue := 0 }, { name := "T_DOUBLE", type := .int, accessFlags := 25, slot := 14, constantValue := 0 }, { name := "T_BYTE", type := .int, accessFlags := 25, slot := 15, constantValue := 0 }, { name := "T_SHORT", type := .int, accessFlags := 25, slot := 16, constantValue := 0 }, { name := "T_INT", type := .int, accessFlags := 25, slot := 17, constantValue := 0 }, { name := "T_LONG", type := .int, accessFlags := 25, slot := 18, constantValue := 0 }, { name := "JLA", type := (.object "jdk/internal/access/JavaLangAccess"), accessFlags := 26, slot := 19, constantValue := 0 }, { name := "SOFT_MAX_ARRAY_LENGTH", type := .int, accessFlags := 25, slot := 20, constantValue := 0 }]
  methods := #[k14m0]
  instanceTypes := #[]
  staticTypes := #[(.object "jdk/internal/misc/Unsafe"), .boolean, .int, .int, .int, .int, .int, .int, .int, .int, .int, .int, .int, .int, .int, .int, .int, .int, .int, (.object "jdk/internal/access/JavaLangAccess"), .int]
  resolved := Array.replicate 378 none
  statics := none }

/-- the primitive byte -/
def k15 : Class := { plain "byte" none with kind := .primitive 'B', accessFlags := 0x411 }
/-- [B -/
def k16 : Class := { plain "[B" (some 0) with kind := .array 15 .byte, interfaces := #[12, 2], accessFlags := 1041 }

/-- the primitive char -/
def k17 : Class := { plain "char" none with kind := .primitive 'C', accessFlags := 0x411 }
/-- [C -/
def k18 : Class := { plain "[C" (some 0) with kind := .array 17 .char, interfaces := #[12, 2], accessFlags := 1041 }

/-- the primitive int -/
def k19 : Class := { plain "int" none with kind := .primitive 'I', accessFlags := 0x411 }
/-- [I -/
def k20 : Class := { plain "[I" (some 0) with kind := .array 19 .int, interfaces := #[12, 2], accessFlags := 1041 }

/-- [Lcom/example/bailiwick/bailiwick/Source; -/
def k21 : Class := { plain "[Lcom/example/bailiwick/bailiwick/Source;" (some 0) with kind := .array 11 (.object "com/example/bailiwick/bailiwick/Source"), interfaces := #[12, 2], accessFlags := 1041 }

def heap : Heap := #[{ cls := 7, slots := #[.long 0, .int 1, .null, .int 0, .null, .int 0, .int 0], vm := .statics 7 },
  { cls := 8, slots := #[.int 0, .int 8, .int 0, .int 1], vm := .statics 8 },
  { cls := 11, slots := #[.ref 5, .ref 6, .ref 4], vm := .statics 11 },
  { cls := 13, slots := #[.null, .null, .null], vm := .statics 13 },
  { cls := 21, slots := #[.ref 5, .ref 6], vm := .none },
  { cls := 11, slots := #[.null, .int 0, .int 0, .ref 7], vm := .none },
  { cls := 11, slots := #[.null, .int 1, .int 0, .ref 9], vm := .none },
  { cls := 7, slots := #[.ref 8, .int 0, .int 0, .int 0], vm := .none },
  { cls := 16, slots := #[.int 108, .int 97, .int 119, .int 45, .int 101, .int 110, .int 102, .int 111, .int 114, .int 99, .int 101, .int 109, .int 101, .int 110, .int 116], vm := .none },
  { cls := 7, slots := #[.ref 10, .int 0, .int 0, .int 0], vm := .none },
  { cls := 16, slots := #[.int 100, .int 105, .int 115, .int 116, .int 114, .int 105, .int 99, .int 116, .int 45, .int 97, .int 116, .int 116, .int 111, .int 114, .int 110, .int 101, .int 121], vm := .none },
  { cls := 14, slots := #[], vm := .none }]
def classes : Array Class := #[k0, k1, k2, k3, k4, k5, k6, k7, k8, k9, k10, k11, k12, k13, k14, k15, k16, k17, k18, k19, k20, k21]
def interned : List (Array UInt16 × Addr) := []
def slotsUsed : Nat := 67
def theMethod : MethodId := ⟨1, 1⟩
def args0 : Array Value := #[.int 2, .int 0, .int 5, .int 65, .int 66, .int 67]
def aboutOver (below : List Frame) : State where
  vm := { classes := classes, interned := interned.toArray }
  heap := heap
  slotsUsed := slotsUsed
  threads := #[{ frames := .invoking theMethod args0 :: below }]
def below0 : List Frame := [.native { method := ⟨0, 0⟩, args := #[] }]
def about1 : State := aboutOver below0
def p0 : Program := .bare "" "" ""
def e0 : Env := launch0.env 0 0 0
theorem w_frames : about1.frames = Frame.invoking theMethod args0 :: below0 := rfl
set_option maxRecDepth 65536 in
theorem w_args : argsFit about1.vm theMethod args0 = true := by decide +kernel
set_option maxRecDepth 65536 in
theorem w_heap : heapFits about1 = true := by decide +kernel
set_option maxRecDepth 65536 in
theorem w_runnable : about1.curStatus? = some .runnable := by decide +kernel
set_option maxRecDepth 65536 in
theorem w_alone : about1.alone = true := by decide +kernel
set_option maxRecDepth 65536 in
theorem w_named : about1.methodNamed? x = some theMethod := by decide +kernel
set_option maxRecDepth 65536 in
theorem w_hears : about1.hears theMethod below0 = true := by decide +kernel
set_option maxRecDepth 65536 in
theorem w_ripe : about1.ripe theMethod args0 below0 = true := by decide +kernel
theorem w_running : about1.status = .running := rfl
set_option maxRecDepth 65536 in
theorem w_room : about1.hasRoom e0.platform room_1 = true :=
  launch0.hasRoom_least _ room_1 (by decide +kernel) (by decide +kernel) (by decide +kernel) (by decide +kernel) (by decide +kernel) (by decide +kernel)
theorem allAtoms_all (ts : List Jvm.Cond) (a : Array Jvm.Value) (st : Jvm.State) : (allAtoms ts).before a st = ts.all (fun c => c.before a st) := by
  induction ts with
  | nil => rfl
  | cons c t ih =>
    show (Jvm.Cond.and c (allAtoms t)).before a st = _
    rw [Jvm.Cond.before_and, ih, List.all_cons]
def words1 : List Jvm.Cond := Jvm.Cond.code x code maxLocals ret :: tables_1
/-- a 'code' word, met by the world's own term for the bytes: nothing is compared byte by byte -/
theorem code_word {y : MethodName} {bytes : ByteArray} {mx : Nat} {rt : Option FieldType} {a : Array Value} {s : State} {m : MethodId} {meth : Method} {c : Code} (h1 : s.methodNamed? y = some m) (h2 : s.vm.method? m = some meth) (h3 : meth.code = some c) (h4 : c.code = bytes)
    (h5 : (c.maxLocals == mx && c.exceptionTable.isEmpty && decide (c.maxStack ≤ mostOperands) && decide (meth.sig.returnType = rt) && !meth.locks && decide (parseMethodDescriptor y.desc = some meth.sig)) = true) : (Jvm.Cond.code y bytes mx rt).before a s = true := by
  simp only [Bool.and_eq_true, beq_iff_eq, Bool.not_eq_true', decide_eq_true_eq] at h5
  obtain ⟨⟨⟨⟨⟨g1, g2⟩, g3⟩, g4⟩, g5⟩, g6⟩ := h5
  simp [Cond.before, Cond.holds, Cond.value, h1, h2, h3, h4, g1, g2, g3, g4, g5, g6]
def isCode : Jvm.Cond → Bool
  | .code _ _ _ _ => true
  | _ => false
theorem all_split {L : List Jvm.Cond} {P : Jvm.Cond → Bool} (h1 : L.all (fun c => isCode c || P c) = true) (h2 : ∀ c ∈ L.filter isCode, P c = true) : L.all P = true := by
  refine List.all_eq_true.mpr fun c hc => ?_
  have h := List.all_eq_true.mp h1 c hc
  rcases Bool.eq_false_or_eq_true (isCode c) with hi | hi
  · exact h2 c (List.mem_filter.mpr ⟨hc, hi⟩)
  · simpa [hi] using h
set_option maxRecDepth 65536 in
theorem w_c0 : (Jvm.Cond.code x code maxLocals ret).before args0 about1 = true := code_word (m := ⟨1, 1⟩) (meth := k1m1) (c := k1c1) (by decide +kernel) rfl rfl rfl (by decide +kernel)
set_option maxRecDepth 65536 in
theorem w_c1 : (Jvm.Cond.code ({ cls := "com/example/bailiwick/bailiwick/SourceNamedPinLaw", name := "le", desc := "()[C" } : Jvm.MethodName) method_3_code (0 : Nat) (Option.some (Jvm.ClassFile.FieldType.array Jvm.ClassFile.FieldType.char))).before args0 about1 = true := code_word (m := ⟨1, 2⟩) (meth := k1m2) (c := k1c2) (by decide +kernel) rfl rfl rfl (by decide +kernel)
set_option maxRecDepth 65536 in
theorem w_c2 : (Jvm.Cond.code ({ cls := "java/lang/String", name := "<init>", desc := "([C)V" } : Jvm.MethodName) jdk_42_method_3_code (2 : Nat) (Option.none : Option Jvm.ClassFile.FieldType)).before args0 about1 = true := code_word (m := ⟨7, 1⟩) (meth := k7m1) (c := k7c1) (by decide +kernel) rfl rfl rfl (by decide +kernel)
set_option maxRecDepth 65536 in
theorem w_c3 : (Jvm.Cond.code ({ cls := "java/lang/String", name := "<init>", desc := "([CIILjava/lang/Void;)V" } : Jvm.MethodName) jdk_42_method_149_code (6 : Nat) (Option.none : Option Jvm.ClassFile.FieldType)).before args0 about1 = true := code_word (m := ⟨7, 3⟩) (meth := k7m3) (c := k7c3) (by decide +kernel) rfl rfl rfl (by decide +kernel)
set_option maxRecDepth 65536 in
theorem w_c4 : (Jvm.Cond.code ({ cls := "java/lang/Object", name := "<init>", desc := "()V" } : Jvm.MethodName) object_method_1_code (1 : Nat) (Option.none : Option Jvm.ClassFile.FieldType)).before args0 about1 = true := code_word (m := ⟨0, 0⟩) (meth := k0m0) (c := k0c0) (by decide +kernel) rfl rfl rfl (by decide +kernel)
set_option maxRecDepth 65536 in
theorem w_c5 : (Jvm.Cond.code ({ cls := "java/lang/StringUTF16", name := "compress", desc := "([CII)[B" } : Jvm.MethodName) jdk_52_method_16_code (6 : Nat) (Option.some (Jvm.ClassFile.FieldType.array Jvm.ClassFile.FieldType.byte))).before args0 about1 = true := code_word (m := ⟨8, 7⟩) (meth := k8m7) (c := k8c7) (by decide +kernel) rfl rfl rfl (by decide +kernel)
set_option maxRecDepth 65536 in
theorem w_c6 : (Jvm.Cond.code ({ cls := "java/lang/StringUTF16", name := "compress", desc := "([CI[BII)I" } : Jvm.MethodName) jdk_52_method_21_code (7 : Nat) (Option.some Jvm.ClassFile.FieldType.int)).before args0 about1 = true := code_word (m := ⟨8, 8⟩) (meth := k8m8) (c := k8c8) (by decide +kernel) rfl rfl rfl (by decide +kernel)
set_option maxRecDepth 65536 in
theorem w_c7 : (Jvm.Cond.code ({ cls := "java/lang/StringUTF16", name := "coderFromArrayLen", desc := "([BI)B" } : Jvm.MethodName) jdk_52_method_15_code (2 : Nat) (Option.some Jvm.ClassFile.FieldType.byte)).before args0 about1 = true := code_word (m := ⟨8, 6⟩) (meth := k8m6) (c := k8c6) (by decide +kernel) rfl rfl rfl (by decide +kernel)
set_option maxRecDepth 65536 in
theorem w_c8 : (Jvm.Cond.code ({ cls := "java/lang/String", name := "equals", desc := "(Ljava/lang/Object;)Z" } : Jvm.MethodName) jdk_42_method_66_code (3 : Nat) (Option.some Jvm.ClassFile.FieldType.boolean)).before args0 about1 = true := code_word (m := ⟨7, 2⟩) (meth := k7m2) (c := k7c2) (by decide +kernel) rfl rfl rfl (by decide +kernel)
set_option maxRecDepth 65536 in
theorem w_c9 : (Jvm.Cond.code ({ cls := "java/lang/StringLatin1", name := "equals", desc := "([B[B)Z" } : Jvm.MethodName) jdk_43_method_13_code (3 : Nat) (Option.some Jvm.ClassFile.FieldType.boolean)).before args0 about1 = true := code_word (m := ⟨9, 1⟩) (meth := k9m1) (c := k9c1) (by decide +kernel) rfl rfl rfl (by decide +kernel)
set_option maxRecDepth 65536 in
theorem w_c10 : (Jvm.Cond.code ({ cls := "com/example/bailiwick/bailiwick/Source", name := "named", desc := "(Ljava/lang/String;)Lcom/example/bailiwick/bailiwick/Source;" } : Jvm.MethodName) prog_38_method_4_code (6 : Nat) (Option.some (Jvm.ClassFile.FieldType.object "com/example/bailiwick/bailiwick/Source"))).before args0 about1 = true := code_word (m := ⟨11, 1⟩) (meth := k11m1) (c := k11c1) (by decide +kernel) rfl rfl rfl (by decide +kernel)
set_option maxRecDepth 65536 in
theorem w_c11 : (Jvm.Cond.code ({ cls := "com/example/bailiwick/bailiwick/Source", name := "values", desc := "()[Lcom/example/bailiwick/bailiwick/Source;" } : Jvm.MethodName) prog_38_method_1_code (0 : Nat) (Option.some (Jvm.ClassFile.FieldType.array (Jvm.ClassFile.FieldType.object "com/example/bailiwick/bailiwick/Source")))).before args0 about1 = true := code_word (m := ⟨11, 0⟩) (meth := k11m0) (c := k11c0) (by decide +kernel) rfl rfl rfl (by decide +kernel)
set_option maxRecDepth 65536 in
theorem w_c12 : (Jvm.Cond.code ({ cls := "com/example/bailiwick/bailiwick/SourceNamedPinLaw", name := "leShorter", desc := "()[C" } : Jvm.MethodName) method_5_code (0 : Nat) (Option.some (Jvm.ClassFile.FieldType.array Jvm.ClassFile.FieldType.char))).before args0 about1 = true := code_word (m := ⟨1, 4⟩) (meth := k1m4) (c := k1c4) (by decide +kernel) rfl rfl rfl (by decide +kernel)
set_option maxRecDepth 65536 in
theorem w_c13 : (Jvm.Cond.code ({ cls := "com/example/bailiwick/bailiwick/SourceNamedPinLaw", name := "daShorter", desc := "()[C" } : Jvm.MethodName) method_8_code (0 : Nat) (Option.some (Jvm.ClassFile.FieldType.array Jvm.ClassFile.FieldType.char))).before args0 about1 = true := code_word (m := ⟨1, 7⟩) (meth := k1m7) (c := k1c7) (by decide +kernel) rfl rfl rfl (by decide +kernel)
set_option maxRecDepth 65536 in
theorem w_c14 : (Jvm.Cond.code ({ cls := "java/lang/StringUTF16", name := "toBytes", desc := "([CII)[B" } : Jvm.MethodName) jdk_52_method_14_code (5 : Nat) (Option.some (Jvm.ClassFile.FieldType.array Jvm.ClassFile.FieldType.byte))).before args0 about1 = true := code_word (m := ⟨8, 5⟩) (meth := k8m5) (c := k8c5) (by decide +kernel) rfl rfl rfl (by decide +kernel)
set_option maxRecDepth 65536 in
theorem w_c15 : (Jvm.Cond.code ({ cls := "java/lang/StringUTF16", name := "newBytesFor", desc := "(I)[B" } : Jvm.MethodName) jdk_52_method_2_code (1 : Nat) (Option.some (Jvm.ClassFile.FieldType.array Jvm.ClassFile.FieldType.byte))).before args0 about1 = true := code_word (m := ⟨8, 1⟩) (meth := k8m1) (c := k8c1) (by decide +kernel) rfl rfl rfl (by decide +kernel)
set_option maxRecDepth 65536 in
theorem w_c16 : (Jvm.Cond.code ({ cls := "java/lang/StringUTF16", name := "newBytesLength", desc := "(I)I" } : Jvm.MethodName) jdk_52_method_3_code (1 : Nat) (Option.some Jvm.ClassFile.FieldType.int)).before args0 about1 = true := code_word (m := ⟨8, 2⟩) (meth := k8m2) (c := k8c2) (by decide +kernel) rfl rfl rfl (by decide +kernel)
set_option maxRecDepth 65536 in
theorem w_c17 : (Jvm.Cond.code ({ cls := "java/lang/StringUTF16", name := "putChar", desc := "([BII)V" } : Jvm.MethodName) jdk_52_method_4_code (3 : Nat) (Option.none : Option Jvm.ClassFile.FieldType)).before args0 about1 = true := code_word (m := ⟨8, 3⟩) (meth := k8m3) (c := k8c3) (by decide +kernel) rfl rfl rfl (by decide +kernel)
set_option maxRecDepth 65536 in
theorem w_c18 : (Jvm.Cond.code ({ cls := "java/lang/StringUTF16", name := "getChar", desc := "([BI)C" } : Jvm.MethodName) jdk_52_method_5_code (2 : Nat) (Option.some Jvm.ClassFile.FieldType.char)).before args0 about1 = true := code_word (m := ⟨8, 4⟩) (meth := k8m4) (c := k8c4) (by decide +kernel) rfl rfl rfl (by decide +kernel)
set_option maxRecDepth 65536 in
theorem w_c19 : (Jvm.Cond.code ({ cls := "com/example/bailiwick/bailiwick/SourceNamedPinLaw", name := "daLonger", desc := "(C)[C" } : Jvm.MethodName) method_7_code (1 : Nat) (Option.some (Jvm.ClassFile.FieldType.array Jvm.ClassFile.FieldType.char))).before args0 about1 = true := code_word (m := ⟨1, 6⟩) (meth := k1m6) (c := k1c6) (by decide +kernel) rfl rfl rfl (by decide +kernel)
set_option maxRecDepth 65536 in
theorem w_c20 : (Jvm.Cond.code ({ cls := "com/example/bailiwick/bailiwick/SourceNamedPinLaw", name := "leLonger", desc := "(C)[C" } : Jvm.MethodName) method_4_code (1 : Nat) (Option.some (Jvm.ClassFile.FieldType.array Jvm.ClassFile.FieldType.char))).before args0 about1 = true := code_word (m := ⟨1, 3⟩) (meth := k1m3) (c := k1c3) (by decide +kernel) rfl rfl rfl (by decide +kernel)
set_option maxRecDepth 65536 in
theorem w_c21 : (Jvm.Cond.code ({ cls := "com/example/bailiwick/bailiwick/SourceNamedPinLaw", name := "da", desc := "()[C" } : Jvm.MethodName) method_6_code (0 : Nat) (Option.some (Jvm.ClassFile.FieldType.array Jvm.ClassFile.FieldType.char))).before args0 about1 = true := code_word (m := ⟨1, 5⟩) (meth := k1m5) (c := k1c5) (by decide +kernel) rfl rfl rfl (by decide +kernel)
def codes1 : List Jvm.Cond := [Jvm.Cond.code x code maxLocals ret, Jvm.Cond.code ({ cls := "com/example/bailiwick/bailiwick/SourceNamedPinLaw", name := "le", desc := "()[C" } : Jvm.MethodName) method_3_code (0 : Nat) (Option.some (Jvm.ClassFile.FieldType.array Jvm.ClassFile.FieldType.char)), Jvm.Cond.code ({ cls := "java/lang/String", name := "<init>", desc := "([C)V" } : Jvm.MethodName) jdk_42_method_3_code (2 : Nat) (Option.none : Option Jvm.ClassFile.FieldType), Jvm.Cond.code ({ cls := "java/lang/String", name := "<init>", desc := "([CIILjava/lang/Void;)V" } : Jvm.MethodName) jdk_42_method_149_code (6 : Nat) (Option.none : Option Jvm.ClassFile.FieldType), Jvm.Cond.code ({ cls := "java/lang/Object", name := "<init>", desc := "()V" } : Jvm.MethodName) object_method_1_code (1 : Nat) (Option.none : Option Jvm.ClassFile.FieldType), Jvm.Cond.code ({ cls := "java/lang/StringUTF16", name := "compress", desc := "([CII)[B" } : Jvm.MethodName) jdk_52_method_16_code (6 : Nat) (Option.some (Jvm.ClassFile.FieldType.array Jvm.ClassFile.FieldType.byte)), Jvm.Cond.code ({ cls := "java/lang/StringUTF16", name := "compress", desc := "([CI[BII)I" } : Jvm.MethodName) jdk_52_method_21_code (7 : Nat) (Option.some Jvm.ClassFile.FieldType.int), Jvm.Cond.code ({ cls := "java/lang/StringUTF16", name := "coderFromArrayLen", desc := "([BI)B" } : Jvm.MethodName) jdk_52_method_15_code (2 : Nat) (Option.some Jvm.ClassFile.FieldType.byte), Jvm.Cond.code ({ cls := "java/lang/String", name := "equals", desc := "(Ljava/lang/Object;)Z" } : Jvm.MethodName) jdk_42_method_66_code (3 : Nat) (Option.some Jvm.ClassFile.FieldType.boolean), Jvm.Cond.code ({ cls := "java/lang/StringLatin1", name := "equals", desc := "([B[B)Z" } : Jvm.MethodName) jdk_43_method_13_code (3 : Nat) (Option.some Jvm.ClassFile.FieldType.boolean), Jvm.Cond.code ({ cls := "com/example/bailiwick/bailiwick/Source", name := "named", desc := "(Ljava/lang/String;)Lcom/example/bailiwick/bailiwick/Source;" } : Jvm.MethodName) prog_38_method_4_code (6 : Nat) (Option.some (Jvm.ClassFile.FieldType.object "com/example/bailiwick/bailiwick/Source")), Jvm.Cond.code ({ cls := "com/example/bailiwick/bailiwick/Source", name := "values", desc := "()[Lcom/example/bailiwick/bailiwick/Source;" } : Jvm.MethodName) prog_38_method_1_code (0 : Nat) (Option.some (Jvm.ClassFile.FieldType.array (Jvm.ClassFile.FieldType.object "com/example/bailiwick/bailiwick/Source"))), Jvm.Cond.code ({ cls := "com/example/bailiwick/bailiwick/SourceNamedPinLaw", name := "leShorter", desc := "()[C" } : Jvm.MethodName) method_5_code (0 : Nat) (Option.some (Jvm.ClassFile.FieldType.array Jvm.ClassFile.FieldType.char)), Jvm.Cond.code ({ cls := "com/example/bailiwick/bailiwick/SourceNamedPinLaw", name := "daShorter", desc := "()[C" } : Jvm.MethodName) method_8_code (0 : Nat) (Option.some (Jvm.ClassFile.FieldType.array Jvm.ClassFile.FieldType.char)), Jvm.Cond.code ({ cls := "java/lang/StringUTF16", name := "toBytes", desc := "([CII)[B" } : Jvm.MethodName) jdk_52_method_14_code (5 : Nat) (Option.some (Jvm.ClassFile.FieldType.array Jvm.ClassFile.FieldType.byte)), Jvm.Cond.code ({ cls := "java/lang/StringUTF16", name := "newBytesFor", desc := "(I)[B" } : Jvm.MethodName) jdk_52_method_2_code (1 : Nat) (Option.some (Jvm.ClassFile.FieldType.array Jvm.ClassFile.FieldType.byte)), Jvm.Cond.code ({ cls := "java/lang/StringUTF16", name := "newBytesLength", desc := "(I)I" } : Jvm.MethodName) jdk_52_method_3_code (1 : Nat) (Option.some Jvm.ClassFile.FieldType.int), Jvm.Cond.code ({ cls := "java/lang/StringUTF16", name := "putChar", desc := "([BII)V" } : Jvm.MethodName) jdk_52_method_4_code (3 : Nat) (Option.none : Option Jvm.ClassFile.FieldType), Jvm.Cond.code ({ cls := "java/lang/StringUTF16", name := "getChar", desc := "([BI)C" } : Jvm.MethodName) jdk_52_method_5_code (2 : Nat) (Option.some Jvm.ClassFile.FieldType.char), Jvm.Cond.code ({ cls := "com/example/bailiwick/bailiwick/SourceNamedPinLaw", name := "daLonger", desc := "(C)[C" } : Jvm.MethodName) method_7_code (1 : Nat) (Option.some (Jvm.ClassFile.FieldType.array Jvm.ClassFile.FieldType.char)), Jvm.Cond.code ({ cls := "com/example/bailiwick/bailiwick/SourceNamedPinLaw", name := "leLonger", desc := "(C)[C" } : Jvm.MethodName) method_4_code (1 : Nat) (Option.some (Jvm.ClassFile.FieldType.array Jvm.ClassFile.FieldType.char)), Jvm.Cond.code ({ cls := "com/example/bailiwick/bailiwick/SourceNamedPinLaw", name := "da", desc := "()[C" } : Jvm.MethodName) method_6_code (0 : Nat) (Option.some (Jvm.ClassFile.FieldType.array Jvm.ClassFile.FieldType.char))]
set_option maxRecDepth 65536 in
theorem codes_eq : words1.filter isCode = codes1 := rfl
theorem w_codes : ∀ c ∈ words1.filter isCode, c.before args0 about1 = true := by
  rw [codes_eq]
  intro c hc
  simp only [codes1, List.mem_cons, List.not_mem_nil, or_false] at hc
  rcases hc with rfl | rfl | rfl | rfl | rfl | rfl | rfl | rfl | rfl | rfl | rfl | rfl | rfl | rfl | rfl | rfl | rfl | rfl | rfl | rfl | rfl | rfl
  · exact w_c0
  · exact w_c1
  · exact w_c2
  · exact w_c3
  · exact w_c4
  · exact w_c5
  · exact w_c6
  · exact w_c7
  · exact w_c8
  · exact w_c9
  · exact w_c10
  · exact w_c11
  · exact w_c12
  · exact w_c13
  · exact w_c14
  · exact w_c15
  · exact w_c16
  · exact w_c17
  · exact w_c18
  · exact w_c19
  · exact w_c20
  · exact w_c21
set_option maxRecDepth 65536 in
theorem w_t1 : (words1.take 24).all (fun c => isCode c || c.before args0 about1) = true := by decide +kernel
set_option maxRecDepth 65536 in
theorem w_t2 : ((words1.drop 24).take 24).all (fun c => isCode c || c.before args0 about1) = true := by decide +kernel
set_option maxRecDepth 65536 in
theorem w_t3 : (((words1.drop 24).drop 24).take 24).all (fun c => isCode c || c.before args0 about1) = true := by decide +kernel
set_option maxRecDepth 65536 in
theorem w_t4 : ((((words1.drop 24).drop 24).drop 24).take 24).all (fun c => isCode c || c.before args0 about1) = true := by decide +kernel
set_option maxRecDepth 65536 in
theorem w_t5 : ((((words1.drop 24).drop 24).drop 24).drop 24).all (fun c => isCode c || c.before args0 about1) = true := by decide +kernel
theorem w_tables : (allAtoms (Jvm.Cond.code x code maxLocals ret :: tables_1)).before args0 about1 = true := by
  rw [allAtoms_all]
  show words1.all (fun c => c.before args0 about1) = true
  refine all_split ?_ w_codes
  rw [← List.take_append_drop 24 words1, List.all_append, w_t1, ← List.take_append_drop 24 (words1.drop 24), List.all_append, w_t2, ← List.take_append_drop 24 ((words1.drop 24).drop 24), List.all_append, w_t3, ← List.take_append_drop 24 (((words1.drop 24).drop 24).drop 24), List.all_append, w_t4, w_t5]
  rfl
set_option maxRecDepth 65536 in
theorem w_rest : rest_1_c.before args0 about1 = true := by decide +kernel
set_option maxRecDepth 65536 in
theorem w_case : (Jvm.Cond.and given_1 narrow_1).before args0 about1 = true := by decide +kernel
set_option maxRecDepth 65536 in
theorem w_consts : constsHeld consts_1 about1 := Jvm.Lit.constsHeldB_iff.mp (by decide +kernel)
theorem w_applies : (headSpec (Jvm.Cond.code x code maxLocals ret :: tables_1) room_1).applies x e0.platform about1 = true :=
  (Spec.applies_iff w_frames).mpr ⟨w_running, w_runnable, w_alone, w_named, w_hears, w_ripe, w_room, w_tables⟩
theorem atStart : AtStart classFile x code maxLocals ret World_1 tables_1 room_1 Calls_1 rest_1 Pre_1 launch0 p0 e0 about1 theMethod args0 below0 :=
  ⟨lists_1, trivial, launch0.admits_env _ _ _, launch0.least_env, fairChoices_fair.cas, fairChoices_fair.clock, w_frames, w_args, w_heap, w_applies, ⟨w_consts, trivial⟩, w_rest, w_case⟩
end start1
theorem witness_1 : WitnessClaimed_1 := ⟨start1.p0, start1.e0, start1.about1, start1.theMethod, start1.args0, start1.below0, start1.atStart⟩
end Jvm.Pilot.@@N@@
