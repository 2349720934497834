import JvmDerived
import JvmDerived.Pilot.@@N@@Statement
import JvmDerived.Pilot.@@N@@Code
set_option linter.unusedVariables false
set_option linter.unusedSimpArgs false
namespace Jvm.RoadKit
open Sem ClassFile Op Lib Jvm.Stand Jvm.Free Jvm.LawKit
section Own
variable {p : Program} {l : Launch} {e : Env} {R : Room} {s : State} {m : MethodId} {args : Array Value} {below : List Frame} {meth : Method} {c : Code} {T : State} {locs : List Loc} {cells slots : Nat} {Z : State} {a0 : Array Value} {h : Heap}
/-- from T with the frame g on top the run comes back with what Q says -/
def Go (p : Program) (e : Env) (below : List Frame) (Fin' : Outcome → State → Prop) (T : State) (g : JFrame) : Prop :=
  ∃ s₂ o, Steps p.tables e below (T.setTop g) s₂ ∧ s₂.status = .running ∧ Ended s₂ below o ∧ Fin' o s₂
/-- how a body ends -/
def Fn (s : State) (RC RS : Nat) (Q : Option Value → Heap → List Loc → Prop) (o : Outcome) (t : State) : Prop := ∃ v L, o = .returned v ∧ Q v t.heap L ∧ FrameEnd s o t L RC RS
/-- what stands fast through a body's walk -/
def Cx (p : Program) (s : State) (m : MethodId) (meth : Method) (c : Code) (Z : State) (own nm : String) (bytes : ByteArray) (maxL : Nat) (ret : Option FieldType) : Prop :=
  p.tables.exec = Jvm.exec ∧ Z.Warmed39 s.vm ∧ s.vm.findClass own = some m.cls ∧ c.code = bytes ∧ c.maxLocals = maxL ∧ meth.sig.returnType = ret ∧ meth.name = nm ∧ meth.locks = false
variable {RC RS : Nat} {Q : Option Value → Heap → List Loc → Prop} {Fin' : Outcome → State → Prop} {own nm : String} {bytes : ByteArray} {maxL : Nat} {ret : Option FieldType} {pc pc' : Nat} {Ls Ls' : Array Slot} {S : List Value}
theorem Go.via {T' : State} {g g' : JFrame} (G : Go p e below Fin' T' g') (k : ∀ t, Steps p.tables e below (T'.setTop g') t → Steps p.tables e below (T.setTop g) t) : Go p e below Fin' T g := by
  obtain ⟨s₂, o, st, r⟩ := G; exact ⟨s₂, o, k _ st, r⟩
theorem Go.cast {g g' : JFrame} (q : g = g') (G : Go p e below Fin' T g') : Go p e below Fin' T g := q ▸ G
/-- a body's contract -/
def Met1 (l : Launch) (Z : State) (y : MethodName) (bytes : ByteArray) (maxL : Nat) (ret : Option FieldType) (rm : Room) (as' : Array Value) (h0 : Heap) (Q : Option Value → Heap → List Loc → Prop) : Prop :=
  ∀ ws : List Jvm.Cond, MetFree l y (head1 (Jvm.Cond.code y bytes maxL ret :: ws) rm) (fun a U => a = as' ∧ Z.Warmed39 U.vm ∧ U.heap = h0) (fun _ _ _ _ _ => True) (fun _ U o U' => ∃ v L, o = .returned v ∧ Q v U'.heap L ∧ FrameEnd U o U' L rm.cells rm.slots)
theorem Met1.of_body {y : MethodName} {rm : Room} {as' : Array Value} {h0 : Heap} (hp : plainFor y = true) (ef : ∀ m, entryFrame m as' maxL = mkF m 0 Ls [])
    (body : ∀ {p : Program} {e : Env} {s : State} {m : MethodId} {below : List Frame} {meth : Method} {c : Code} {T : State}, Cx p s m meth c Z y.cls y.name bytes maxL ret → Stand p l e rm s m as' below meth c T [] 0 0 → T.heap = h0 → Go p e below (Fn s rm.cells rm.slots Q) T (mkF m 0 Ls [])) :
    Met1 l Z y bytes maxL ret rm as' h0 Q := by
  intro ws
  refine MetFree.of_bodySF hp hisR ?_
  intro p e s m args below meth c s₁ Bd hml0 hP hK
  obtain ⟨rfl, hZ, hh⟩ := hP
  have X0 : Stand p l e rm s m args below meth c s₁ [] 0 0 := Stand.of_body Bd
  have hlk : meth.locks = false := BodyLoose.notSynchronized Bd
  obtain ⟨s₂, o, st, r1, r2, r3⟩ := body (p := p) (e := e) (s := s) (m := m) (below := below) (meth := meth) (c := c) (T := s₁) ⟨Bd.exec, hZ, findClass_of_methodNamed Bd.named, Bd.bytes, hml0, Bd.returns, (name_of_methodNamed Bd.named Bd.method).1, hlk⟩ X0 (by rw [← hh, Bd.state]; rfl)
  exact ⟨s₂, o, castTop (ef m) st, r1, r2, r3⟩
/-- a contract may say less -/
theorem Met1.weak {y : MethodName} {rm : Room} {as' : Array Value} {h0 : Heap} {Q' : Option Value → Heap → List Loc → Prop} (M : Met1 l Z y bytes maxL ret rm as' h0 Q) (q : ∀ v h L, Q v h L → Q' v h L) : Met1 l Z y bytes maxL ret rm as' h0 Q' := by
  intro ws p e ha hc hk s m args below hf happ hP hK
  obtain ⟨n, o, h1, h2, h3, v, L, h4, h5, h6⟩ := M ws p e ha hc hk s m args below hf happ hP hK
  exact ⟨n, o, h1, h2, h3, v, L, h4, q _ _ _ h5, h6⟩

/-! plain steps -/
theorem Go.aloadN (C : Cx p s m meth c Z own nm bytes maxL ret) (X : Stand p l e R s m args below meth c T locs cells slots) {k : Fin 4} {v : Value} (hd : decode bytes pc = .ok (.aload_n k, 1)) (hl : Ls[k.val]? = some (.val v)) (hv : v.isRef = true) (hp : pc + 1 = pc') (G : Go p e below Fin' T (mkF m pc' Ls (v :: S))) : Go p e below Fin' T (mkF m pc Ls S) := by
  subst hp; exact G.via fun _ k => XS.aloadN X.here C.1 rfl (hb C.2.2.2.1 hd) hl hv k
theorem Go.aload (C : Cx p s m meth c Z own nm bytes maxL ret) (X : Stand p l e R s m args below meth c T locs cells slots) {k : Nat} {v : Value} (hd : decode bytes pc = .ok (.aload k, 2)) (hl : Ls[k]? = some (.val v)) (hv : v.isRef = true) (hp : pc + 2 = pc') (G : Go p e below Fin' T (mkF m pc' Ls (v :: S))) : Go p e below Fin' T (mkF m pc Ls S) := by
  subst hp; exact G.via fun _ k => XS.aload X.here C.1 rfl (hb C.2.2.2.1 hd) hl hv k
theorem Go.iloadN (C : Cx p s m meth c Z own nm bytes maxL ret) (X : Stand p l e R s m args below meth c T locs cells slots) {k : Fin 4} {v : Int32} (hd : decode bytes pc = .ok (.iload_n k, 1)) (hl : Ls[k.val]? = some (.val (.int v))) (hp : pc + 1 = pc') (G : Go p e below Fin' T (mkF m pc' Ls (.int v :: S))) : Go p e below Fin' T (mkF m pc Ls S) := by
  subst hp; exact G.via fun _ k => XS.iloadN X.here C.1 rfl (hb C.2.2.2.1 hd) hl k
theorem Go.iload (C : Cx p s m meth c Z own nm bytes maxL ret) (X : Stand p l e R s m args below meth c T locs cells slots) {k : Nat} {v : Int32} (hd : decode bytes pc = .ok (.iload k, 2)) (hl : Ls[k]? = some (.val (.int v))) (hp : pc + 2 = pc') (G : Go p e below Fin' T (mkF m pc' Ls (.int v :: S))) : Go p e below Fin' T (mkF m pc Ls S) := by
  subst hp; exact G.via fun _ k => XS.iload X.here C.1 rfl (hb C.2.2.2.1 hd) hl k
theorem Go.istoreN (C : Cx p s m meth c Z own nm bytes maxL ret) (X : Stand p l e R s m args below meth c T locs cells slots) {k : Fin 4} {v : Int32} (hd : decode bytes pc = .ok (.istore_n k, 1)) (hl : storeLocals Ls k.val (.int v) = some Ls') (hp : pc + 1 = pc') (G : Go p e below Fin' T (mkF m pc' Ls' S)) : Go p e below Fin' T (mkF m pc Ls (.int v :: S)) := by
  subst hp; exact G.via fun _ k => XS.istoreN X.here C.1 rfl (hb C.2.2.2.1 hd) rfl hl k
theorem Go.istore (C : Cx p s m meth c Z own nm bytes maxL ret) (X : Stand p l e R s m args below meth c T locs cells slots) {k : Nat} {v : Int32} (hd : decode bytes pc = .ok (.istore k, 2)) (hl : storeLocals Ls k (.int v) = some Ls') (hp : pc + 2 = pc') (G : Go p e below Fin' T (mkF m pc' Ls' S)) : Go p e below Fin' T (mkF m pc Ls (.int v :: S)) := by
  subst hp; exact G.via fun _ k => XS.istore X.here C.1 rfl (hb C.2.2.2.1 hd) rfl hl k
theorem Go.lloadN (C : Cx p s m meth c Z own nm bytes maxL ret) (X : Stand p l e R s m args below meth c T locs cells slots) {k : Fin 4} {v : Int64} (hd : decode bytes pc = .ok (.lload_n k, 1)) (hl : Ls[k.val]? = some (.val (.long v))) (hp : pc + 1 = pc') (G : Go p e below Fin' T (mkF m pc' Ls (.long v :: S))) : Go p e below Fin' T (mkF m pc Ls S) := by
  subst hp; exact G.via fun _ k => XS.lloadN X.here C.1 rfl (hb C.2.2.2.1 hd) hl k
theorem Go.lload (C : Cx p s m meth c Z own nm bytes maxL ret) (X : Stand p l e R s m args below meth c T locs cells slots) {k : Nat} {v : Int64} (hd : decode bytes pc = .ok (.lload k, 2)) (hl : Ls[k]? = some (.val (.long v))) (hp : pc + 2 = pc') (G : Go p e below Fin' T (mkF m pc' Ls (.long v :: S))) : Go p e below Fin' T (mkF m pc Ls S) := by
  subst hp; exact G.via fun _ k => XS.lload X.here C.1 rfl (hb C.2.2.2.1 hd) hl k
theorem Go.lstoreN (C : Cx p s m meth c Z own nm bytes maxL ret) (X : Stand p l e R s m args below meth c T locs cells slots) {k : Fin 4} {v : Int64} (hd : decode bytes pc = .ok (.lstore_n k, 1)) (hl : storeLocals Ls k.val (.long v) = some Ls') (hp : pc + 1 = pc') (G : Go p e below Fin' T (mkF m pc' Ls' S)) : Go p e below Fin' T (mkF m pc Ls (.long v :: S)) := by
  subst hp; exact G.via fun _ k => XS.lstoreN X.here C.1 rfl (hb C.2.2.2.1 hd) rfl hl k
theorem Go.lstore (C : Cx p s m meth c Z own nm bytes maxL ret) (X : Stand p l e R s m args below meth c T locs cells slots) {k : Nat} {v : Int64} (hd : decode bytes pc = .ok (.lstore k, 2)) (hl : storeLocals Ls k (.long v) = some Ls') (hp : pc + 2 = pc') (G : Go p e below Fin' T (mkF m pc' Ls' S)) : Go p e below Fin' T (mkF m pc Ls (.long v :: S)) := by
  subst hp; exact G.via fun _ k => XS.lstore X.here C.1 rfl (hb C.2.2.2.1 hd) rfl hl k
theorem Go.astoreN (C : Cx p s m meth c Z own nm bytes maxL ret) (X : Stand p l e R s m args below meth c T locs cells slots) {k : Fin 4} {v : Value} (hd : decode bytes pc = .ok (.astore_n k, 1)) (hv : v.isRef = true) (hl : storeLocals Ls k.val v = some Ls') (hp : pc + 1 = pc') (G : Go p e below Fin' T (mkF m pc' Ls' S)) : Go p e below Fin' T (mkF m pc Ls (v :: S)) := by
  subst hp; exact G.via fun _ k => XS.astoreN X.here C.1 rfl (hb C.2.2.2.1 hd) rfl hv hl k
theorem Go.astore (C : Cx p s m meth c Z own nm bytes maxL ret) (X : Stand p l e R s m args below meth c T locs cells slots) {k : Nat} {v : Value} (hd : decode bytes pc = .ok (.astore k, 2)) (hv : v.isRef = true) (hl : storeLocals Ls k v = some Ls') (hp : pc + 2 = pc') (G : Go p e below Fin' T (mkF m pc' Ls' S)) : Go p e below Fin' T (mkF m pc Ls (v :: S)) := by
  subst hp; exact G.via fun _ k => XS.astore X.here C.1 rfl (hb C.2.2.2.1 hd) rfl hv hl k
theorem Go.iconst (C : Cx p s m meth c Z own nm bytes maxL ret) (X : Stand p l e R s m args below meth c T locs cells slots) {i : Int} {z : Int32} (hd : decode bytes pc = .ok (.iconst i, 1)) (hz : Int32.ofInt i = z) (hp : pc + 1 = pc') (G : Go p e below Fin' T (mkF m pc' Ls (.int z :: S))) : Go p e below Fin' T (mkF m pc Ls S) := by
  subst hp; exact G.via fun _ k => XT.iconstV X.here C.1 rfl z (hb C.2.2.2.1 hd) hz k
theorem Go.bipush (C : Cx p s m meth c Z own nm bytes maxL ret) (X : Stand p l e R s m args below meth c T locs cells slots) {i : Int} {z : Int32} (hd : decode bytes pc = .ok (.bipush i, 2)) (hz : (Int8.ofInt i).toInt32 = z) (hp : pc + 2 = pc') (G : Go p e below Fin' T (mkF m pc' Ls (.int z :: S))) : Go p e below Fin' T (mkF m pc Ls S) := by
  subst hp; exact G.via fun _ k => XT.bipushV X.here C.1 rfl z (hb C.2.2.2.1 hd) hz k
theorem Go.sipush (C : Cx p s m meth c Z own nm bytes maxL ret) (X : Stand p l e R s m args below meth c T locs cells slots) {i : Int} {z : Int32} (hd : decode bytes pc = .ok (.sipush i, 3)) (hz : (Int16.ofInt i).toInt32 = z) (hp : pc + 3 = pc') (G : Go p e below Fin' T (mkF m pc' Ls (.int z :: S))) : Go p e below Fin' T (mkF m pc Ls S) := by
  subst hp; exact G.via fun _ k => XT.sipushV X.here C.1 rfl z (hb C.2.2.2.1 hd) hz k
theorem Go.lconst (C : Cx p s m meth c Z own nm bytes maxL ret) (X : Stand p l e R s m args below meth c T locs cells slots) {i : Fin 2} {z : Int64} (hd : decode bytes pc = .ok (.lconst i, 1)) (hz : Int64.ofNat i = z) (hp : pc + 1 = pc') (G : Go p e below Fin' T (mkF m pc' Ls (.long z :: S))) : Go p e below Fin' T (mkF m pc Ls S) := by
  subst hp; exact G.via fun _ k => XT.lconstV X.here C.1 rfl z (hb C.2.2.2.1 hd) hz k
theorem Go.aconstNull (C : Cx p s m meth c Z own nm bytes maxL ret) (X : Stand p l e R s m args below meth c T locs cells slots)  (hd : decode bytes pc = .ok (.aconst_null, 1))  (hp : pc + 1 = pc') (G : Go p e below Fin' T (mkF m pc' Ls (.null :: S))) : Go p e below Fin' T (mkF m pc Ls S) := by
  subst hp; exact G.via fun _ k => XS.aconstNull X.here C.1 rfl (hb C.2.2.2.1 hd) k
theorem Go.ldcI (C : Cx p s m meth c Z own nm bytes maxL ret) (X : Stand p l e R s m args below meth c T locs cells slots) {i : Nat} {z : Int32} (hd : decode bytes pc = .ok (.ldc i, 2)) (w : (Cond.constant own i z).before a0 Z = true) (hp : pc + 2 = pc') (G : Go p e below Fin' T (mkF m pc' Ls (.int z :: S))) : Go p e below Fin' T (mkF m pc Ls S) := by
  subst hp; exact G.via fun _ k => X.ldcI C.1 C.2.2.1 (mvT C.2.1 w) rfl (hb C.2.2.2.1 hd) k
theorem Go.ldcWI (C : Cx p s m meth c Z own nm bytes maxL ret) (X : Stand p l e R s m args below meth c T locs cells slots) {i : Nat} {z : Int32} (hd : decode bytes pc = .ok (.ldc_w i, 3)) (w : (Cond.constant own i z).before a0 Z = true) (hp : pc + 3 = pc') (G : Go p e below Fin' T (mkF m pc' Ls (.int z :: S))) : Go p e below Fin' T (mkF m pc Ls S) := by
  subst hp; exact G.via (X.ldcwInt C.1 C.2.2.1 (mvT C.2.1 w) (g := mkF m pc Ls S) rfl (hb C.2.2.2.1 hd))
theorem Go.ldc2J (C : Cx p s m meth c Z own nm bytes maxL ret) (X : Stand p l e R s m args below meth c T locs cells slots) {i : Nat} {z : Int64} (hd : decode bytes pc = .ok (.ldc2_w i, 3)) (w : (Cond.constantLong own i z).before a0 Z = true) (hp : pc + 3 = pc') (G : Go p e below Fin' T (mkF m pc' Ls (.long z :: S))) : Go p e below Fin' T (mkF m pc Ls S) := by
  subst hp; exact G.via fun _ k => X.ldc2J C.1 C.2.2.1 (mvT C.2.1 w) rfl (hb C.2.2.2.1 hd) k
theorem Go.iadd (C : Cx p s m meth c Z own nm bytes maxL ret) (X : Stand p l e R s m args below meth c T locs cells slots) {x y : Int32} (hd : decode bytes pc = .ok (.iadd, 1))  (hp : pc + 1 = pc') (G : Go p e below Fin' T (mkF m pc' Ls (.int (x + y) :: S))) : Go p e below Fin' T (mkF m pc Ls (.int y :: .int x :: S)) := by
  subst hp; exact G.via fun _ k => XS.iadd X.here C.1 rfl (hb C.2.2.2.1 hd) rfl k
theorem Go.ladd (C : Cx p s m meth c Z own nm bytes maxL ret) (X : Stand p l e R s m args below meth c T locs cells slots) {x y : Int64} (hd : decode bytes pc = .ok (.ladd, 1))  (hp : pc + 1 = pc') (G : Go p e below Fin' T (mkF m pc' Ls (.long (x + y) :: S))) : Go p e below Fin' T (mkF m pc Ls (.long y :: .long x :: S)) := by
  subst hp; exact G.via fun _ k => XS.ladd X.here C.1 rfl (hb C.2.2.2.1 hd) rfl k
theorem Go.isub (C : Cx p s m meth c Z own nm bytes maxL ret) (X : Stand p l e R s m args below meth c T locs cells slots) {x y : Int32} (hd : decode bytes pc = .ok (.isub, 1))  (hp : pc + 1 = pc') (G : Go p e below Fin' T (mkF m pc' Ls (.int (x - y) :: S))) : Go p e below Fin' T (mkF m pc Ls (.int y :: .int x :: S)) := by
  subst hp; exact G.via fun _ k => XS.isub X.here C.1 rfl (hb C.2.2.2.1 hd) rfl k
theorem Go.lsub (C : Cx p s m meth c Z own nm bytes maxL ret) (X : Stand p l e R s m args below meth c T locs cells slots) {x y : Int64} (hd : decode bytes pc = .ok (.lsub, 1))  (hp : pc + 1 = pc') (G : Go p e below Fin' T (mkF m pc' Ls (.long (x - y) :: S))) : Go p e below Fin' T (mkF m pc Ls (.long y :: .long x :: S)) := by
  subst hp; exact G.via fun _ k => XS.lsub X.here C.1 rfl (hb C.2.2.2.1 hd) rfl k
theorem Go.imul (C : Cx p s m meth c Z own nm bytes maxL ret) (X : Stand p l e R s m args below meth c T locs cells slots) {x y : Int32} (hd : decode bytes pc = .ok (.imul, 1))  (hp : pc + 1 = pc') (G : Go p e below Fin' T (mkF m pc' Ls (.int (x * y) :: S))) : Go p e below Fin' T (mkF m pc Ls (.int y :: .int x :: S)) := by
  subst hp; exact G.via fun _ k => XS.imul X.here C.1 rfl (hb C.2.2.2.1 hd) rfl k
theorem Go.lmul (C : Cx p s m meth c Z own nm bytes maxL ret) (X : Stand p l e R s m args below meth c T locs cells slots) {x y : Int64} (hd : decode bytes pc = .ok (.lmul, 1))  (hp : pc + 1 = pc') (G : Go p e below Fin' T (mkF m pc' Ls (.long (x * y) :: S))) : Go p e below Fin' T (mkF m pc Ls (.long y :: .long x :: S)) := by
  subst hp; exact G.via fun _ k => XS.lmul X.here C.1 rfl (hb C.2.2.2.1 hd) rfl k
theorem Go.iand (C : Cx p s m meth c Z own nm bytes maxL ret) (X : Stand p l e R s m args below meth c T locs cells slots) {x y : Int32} (hd : decode bytes pc = .ok (.iand, 1))  (hp : pc + 1 = pc') (G : Go p e below Fin' T (mkF m pc' Ls (.int (x &&& y) :: S))) : Go p e below Fin' T (mkF m pc Ls (.int y :: .int x :: S)) := by
  subst hp; exact G.via fun _ k => XS.iand X.here C.1 rfl (hb C.2.2.2.1 hd) rfl k
theorem Go.land (C : Cx p s m meth c Z own nm bytes maxL ret) (X : Stand p l e R s m args below meth c T locs cells slots) {x y : Int64} (hd : decode bytes pc = .ok (.land, 1))  (hp : pc + 1 = pc') (G : Go p e below Fin' T (mkF m pc' Ls (.long (x &&& y) :: S))) : Go p e below Fin' T (mkF m pc Ls (.long y :: .long x :: S)) := by
  subst hp; exact G.via fun _ k => XS.land X.here C.1 rfl (hb C.2.2.2.1 hd) rfl k
theorem Go.ior (C : Cx p s m meth c Z own nm bytes maxL ret) (X : Stand p l e R s m args below meth c T locs cells slots) {x y : Int32} (hd : decode bytes pc = .ok (.ior, 1))  (hp : pc + 1 = pc') (G : Go p e below Fin' T (mkF m pc' Ls (.int (x ||| y) :: S))) : Go p e below Fin' T (mkF m pc Ls (.int y :: .int x :: S)) := by
  subst hp; exact G.via fun _ k => XS.ior X.here C.1 rfl (hb C.2.2.2.1 hd) rfl k
theorem Go.lor (C : Cx p s m meth c Z own nm bytes maxL ret) (X : Stand p l e R s m args below meth c T locs cells slots) {x y : Int64} (hd : decode bytes pc = .ok (.lor, 1))  (hp : pc + 1 = pc') (G : Go p e below Fin' T (mkF m pc' Ls (.long (x ||| y) :: S))) : Go p e below Fin' T (mkF m pc Ls (.long y :: .long x :: S)) := by
  subst hp; exact G.via fun _ k => XS.lor X.here C.1 rfl (hb C.2.2.2.1 hd) rfl k
theorem Go.ixor (C : Cx p s m meth c Z own nm bytes maxL ret) (X : Stand p l e R s m args below meth c T locs cells slots) {x y : Int32} (hd : decode bytes pc = .ok (.ixor, 1))  (hp : pc + 1 = pc') (G : Go p e below Fin' T (mkF m pc' Ls (.int (x ^^^ y) :: S))) : Go p e below Fin' T (mkF m pc Ls (.int y :: .int x :: S)) := by
  subst hp; exact G.via fun _ k => XS.ixor X.here C.1 rfl (hb C.2.2.2.1 hd) rfl k
theorem Go.lxor (C : Cx p s m meth c Z own nm bytes maxL ret) (X : Stand p l e R s m args below meth c T locs cells slots) {x y : Int64} (hd : decode bytes pc = .ok (.lxor, 1))  (hp : pc + 1 = pc') (G : Go p e below Fin' T (mkF m pc' Ls (.long (x ^^^ y) :: S))) : Go p e below Fin' T (mkF m pc Ls (.long y :: .long x :: S)) := by
  subst hp; exact G.via fun _ k => XS.lxor X.here C.1 rfl (hb C.2.2.2.1 hd) rfl k
theorem Go.ishl (C : Cx p s m meth c Z own nm bytes maxL ret) (X : Stand p l e R s m args below meth c T locs cells slots) {x y : Int32} (hd : decode bytes pc = .ok (.ishl, 1))  (hp : pc + 1 = pc') (G : Go p e below Fin' T (mkF m pc' Ls (.int (x <<< (y &&& 31)) :: S))) : Go p e below Fin' T (mkF m pc Ls (.int y :: .int x :: S)) := by
  subst hp; exact G.via fun _ k => XS.ishl X.here C.1 rfl (hb C.2.2.2.1 hd) rfl k
theorem Go.ishr (C : Cx p s m meth c Z own nm bytes maxL ret) (X : Stand p l e R s m args below meth c T locs cells slots) {x y : Int32} (hd : decode bytes pc = .ok (.ishr, 1))  (hp : pc + 1 = pc') (G : Go p e below Fin' T (mkF m pc' Ls (.int (x >>> (y &&& 31)) :: S))) : Go p e below Fin' T (mkF m pc Ls (.int y :: .int x :: S)) := by
  subst hp; exact G.via fun _ k => XS.ishr X.here C.1 rfl (hb C.2.2.2.1 hd) rfl k
theorem Go.iushr (C : Cx p s m meth c Z own nm bytes maxL ret) (X : Stand p l e R s m args below meth c T locs cells slots) {x y : Int32} (hd : decode bytes pc = .ok (.iushr, 1))  (hp : pc + 1 = pc') (G : Go p e below Fin' T (mkF m pc' Ls (.int ((x.toUInt32 >>> (y &&& 31).toUInt32).toInt32) :: S))) : Go p e below Fin' T (mkF m pc Ls (.int y :: .int x :: S)) := by
  subst hp; exact G.via fun _ k => XS.iushr X.here C.1 rfl (hb C.2.2.2.1 hd) rfl k
theorem Go.lshl (C : Cx p s m meth c Z own nm bytes maxL ret) (X : Stand p l e R s m args below meth c T locs cells slots) {x : Int64} {y : Int32} (hd : decode bytes pc = .ok (.lshl, 1))  (hp : pc + 1 = pc') (G : Go p e below Fin' T (mkF m pc' Ls (.long (x <<< (y &&& 0x3f).toInt64) :: S))) : Go p e below Fin' T (mkF m pc Ls (.int y :: .long x :: S)) := by
  subst hp; exact G.via fun _ k => XS.lshl X.here C.1 rfl (hb C.2.2.2.1 hd) rfl k
theorem Go.lshr (C : Cx p s m meth c Z own nm bytes maxL ret) (X : Stand p l e R s m args below meth c T locs cells slots) {x : Int64} {y : Int32} (hd : decode bytes pc = .ok (.lshr, 1))  (hp : pc + 1 = pc') (G : Go p e below Fin' T (mkF m pc' Ls (.long (x >>> (y &&& 0x3f).toInt64) :: S))) : Go p e below Fin' T (mkF m pc Ls (.int y :: .long x :: S)) := by
  subst hp; exact G.via fun _ k => XS.lshr X.here C.1 rfl (hb C.2.2.2.1 hd) rfl k
theorem Go.lushr (C : Cx p s m meth c Z own nm bytes maxL ret) (X : Stand p l e R s m args below meth c T locs cells slots) {x : Int64} {y : Int32} (hd : decode bytes pc = .ok (.lushr, 1))  (hp : pc + 1 = pc') (G : Go p e below Fin' T (mkF m pc' Ls (.long ((x.toUInt64 >>> (y &&& 0x3f).toInt64.toUInt64).toInt64) :: S))) : Go p e below Fin' T (mkF m pc Ls (.int y :: .long x :: S)) := by
  subst hp; exact G.via fun _ k => XS.lushr X.here C.1 rfl (hb C.2.2.2.1 hd) rfl k
theorem Go.idiv (C : Cx p s m meth c Z own nm bytes maxL ret) (X : Stand p l e R s m args below meth c T locs cells slots) {x y : Int32} (hd : decode bytes pc = .ok (.idiv, 1)) (hy : y ≠ 0) (hp : pc + 1 = pc') (G : Go p e below Fin' T (mkF m pc' Ls (.int (x / y) :: S))) : Go p e below Fin' T (mkF m pc Ls (.int y :: .int x :: S)) := by
  subst hp; exact G.via fun _ k => XS.idiv X.here C.1 rfl (hb C.2.2.2.1 hd) rfl hy k
theorem Go.irem (C : Cx p s m meth c Z own nm bytes maxL ret) (X : Stand p l e R s m args below meth c T locs cells slots) {x y : Int32} (hd : decode bytes pc = .ok (.irem, 1)) (hy : y ≠ 0) (hp : pc + 1 = pc') (G : Go p e below Fin' T (mkF m pc' Ls (.int (x % y) :: S))) : Go p e below Fin' T (mkF m pc Ls (.int y :: .int x :: S)) := by
  subst hp; exact G.via fun _ k => iremM X C.1 rfl (hb C.2.2.2.1 hd) rfl hy k
theorem Go.ldiv (C : Cx p s m meth c Z own nm bytes maxL ret) (X : Stand p l e R s m args below meth c T locs cells slots) {x y : Int64} (hd : decode bytes pc = .ok (.ldiv, 1)) (hy : y ≠ 0) (hp : pc + 1 = pc') (G : Go p e below Fin' T (mkF m pc' Ls (.long (x / y) :: S))) : Go p e below Fin' T (mkF m pc Ls (.long y :: .long x :: S)) := by
  subst hp; exact G.via fun _ k => XS.ldiv X.here C.1 rfl (hb C.2.2.2.1 hd) rfl hy k
theorem Go.ineg (C : Cx p s m meth c Z own nm bytes maxL ret) (X : Stand p l e R s m args below meth c T locs cells slots) {x : Int32} (hd : decode bytes pc = .ok (.ineg, 1))  (hp : pc + 1 = pc') (G : Go p e below Fin' T (mkF m pc' Ls (.int (-x) :: S))) : Go p e below Fin' T (mkF m pc Ls (.int x :: S)) := by
  subst hp; exact G.via fun _ k => XS.ineg X.here C.1 rfl (hb C.2.2.2.1 hd) rfl k
theorem Go.lneg (C : Cx p s m meth c Z own nm bytes maxL ret) (X : Stand p l e R s m args below meth c T locs cells slots) {x : Int64} (hd : decode bytes pc = .ok (.lneg, 1))  (hp : pc + 1 = pc') (G : Go p e below Fin' T (mkF m pc' Ls (.long (-x) :: S))) : Go p e below Fin' T (mkF m pc Ls (.long x :: S)) := by
  subst hp; exact G.via fun _ k => XS.lneg X.here C.1 rfl (hb C.2.2.2.1 hd) rfl k
theorem Go.i2l (C : Cx p s m meth c Z own nm bytes maxL ret) (X : Stand p l e R s m args below meth c T locs cells slots) {x : Int32} (hd : decode bytes pc = .ok (.i2l, 1))  (hp : pc + 1 = pc') (G : Go p e below Fin' T (mkF m pc' Ls (.long (x.toInt64) :: S))) : Go p e below Fin' T (mkF m pc Ls (.int x :: S)) := by
  subst hp; exact G.via fun _ k => XS.i2l X.here C.1 rfl (hb C.2.2.2.1 hd) rfl k
theorem Go.l2i (C : Cx p s m meth c Z own nm bytes maxL ret) (X : Stand p l e R s m args below meth c T locs cells slots) {x : Int64} (hd : decode bytes pc = .ok (.l2i, 1))  (hp : pc + 1 = pc') (G : Go p e below Fin' T (mkF m pc' Ls (.int (x.toInt32) :: S))) : Go p e below Fin' T (mkF m pc Ls (.long x :: S)) := by
  subst hp; exact G.via fun _ k => XS.l2i X.here C.1 rfl (hb C.2.2.2.1 hd) rfl k
theorem Go.i2b (C : Cx p s m meth c Z own nm bytes maxL ret) (X : Stand p l e R s m args below meth c T locs cells slots) {x : Int32} (hd : decode bytes pc = .ok (.i2b, 1))  (hp : pc + 1 = pc') (G : Go p e below Fin' T (mkF m pc' Ls (.int (x.toInt8.toInt32) :: S))) : Go p e below Fin' T (mkF m pc Ls (.int x :: S)) := by
  subst hp; exact G.via fun _ k => XS.i2b X.here C.1 rfl (hb C.2.2.2.1 hd) rfl k
theorem Go.i2c (C : Cx p s m meth c Z own nm bytes maxL ret) (X : Stand p l e R s m args below meth c T locs cells slots) {x : Int32} (hd : decode bytes pc = .ok (.i2c, 1))  (hp : pc + 1 = pc') (G : Go p e below Fin' T (mkF m pc' Ls (.int (x.toUInt32.toUInt16.toUInt32.toInt32) :: S))) : Go p e below Fin' T (mkF m pc Ls (.int x :: S)) := by
  subst hp; exact G.via fun _ k => XS.i2c X.here C.1 rfl (hb C.2.2.2.1 hd) rfl k
theorem Go.i2s (C : Cx p s m meth c Z own nm bytes maxL ret) (X : Stand p l e R s m args below meth c T locs cells slots) {x : Int32} (hd : decode bytes pc = .ok (.i2s, 1))  (hp : pc + 1 = pc') (G : Go p e below Fin' T (mkF m pc' Ls (.int (x.toInt16.toInt32) :: S))) : Go p e below Fin' T (mkF m pc Ls (.int x :: S)) := by
  subst hp; exact G.via fun _ k => XS.i2s X.here C.1 rfl (hb C.2.2.2.1 hd) rfl k
theorem Go.lcmp (C : Cx p s m meth c Z own nm bytes maxL ret) (X : Stand p l e R s m args below meth c T locs cells slots) {x y : Int64} (hd : decode bytes pc = .ok (.lcmp, 1))  (hp : pc + 1 = pc') (G : Go p e below Fin' T (mkF m pc' Ls (.int (lcmpW x y) :: S))) : Go p e below Fin' T (mkF m pc Ls (.long y :: .long x :: S)) := by
  subst hp; exact G.via fun _ k => XS.lcmp X.here C.1 rfl (hb C.2.2.2.1 hd) rfl k
theorem Go.iinc (C : Cx p s m meth c Z own nm bytes maxL ret) (X : Stand p l e R s m args below meth c T locs cells slots) {k : Nat} {i : Int} {z x : Int32} (hd : decode bytes pc = .ok (.iinc k i, 3)) (hz : Int32.ofInt i = z) (hl : Ls[k]? = some (.val (.int x))) (hl' : storeLocals Ls k (.int (x + z)) = some Ls') (hp : pc + 3 = pc') (G : Go p e below Fin' T (mkF m pc' Ls' S)) : Go p e below Fin' T (mkF m pc Ls S) := by
  subst hp; exact G.via fun _ k => XT.iincV X.here C.1 rfl z (hb C.2.2.2.1 hd) hz hl hl' k
theorem Go.dup (C : Cx p s m meth c Z own nm bytes maxL ret) (X : Stand p l e R s m args below meth c T locs cells slots) {v : Value} (hd : decode bytes pc = .ok (.dup, 1)) (hc : v.category = 1) (hp : pc + 1 = pc') (G : Go p e below Fin' T (mkF m pc' Ls (v :: v :: S))) : Go p e below Fin' T (mkF m pc Ls (v :: S)) := by
  subst hp; exact G.via fun _ k => XS.dup X.here C.1 rfl (hb C.2.2.2.1 hd) rfl hc k
theorem Go.pop (C : Cx p s m meth c Z own nm bytes maxL ret) (X : Stand p l e R s m args below meth c T locs cells slots) {v : Value} (hd : decode bytes pc = .ok (.pop, 1)) (hc : v.category = 1) (hp : pc + 1 = pc') (G : Go p e below Fin' T (mkF m pc' Ls S)) : Go p e below Fin' T (mkF m pc Ls (v :: S)) := by
  subst hp; exact G.via fun _ k => XS.pop X.here C.1 rfl (hb C.2.2.2.1 hd) rfl hc k
theorem Go.dupX1 (C : Cx p s m meth c Z own nm bytes maxL ret) (X : Stand p l e R s m args below meth c T locs cells slots) {v w : Value} (hd : decode bytes pc = .ok (.dup_x1, 1)) (hc : v.category = 1) (hc' : w.category = 1) (hp : pc + 1 = pc') (G : Go p e below Fin' T (mkF m pc' Ls (v :: w :: v :: S))) : Go p e below Fin' T (mkF m pc Ls (v :: w :: S)) := by
  subst hp; exact G.via fun _ k => XS.dupX1 X.here C.1 rfl (hb C.2.2.2.1 hd) rfl hc hc' k
theorem Go.dup2 (C : Cx p s m meth c Z own nm bytes maxL ret) (X : Stand p l e R s m args below meth c T locs cells slots) {v w : Value} (hd : decode bytes pc = .ok (.dup2, 1)) (hc : v.category = 1) (hc' : w.category = 1) (hp : pc + 1 = pc') (G : Go p e below Fin' T (mkF m pc' Ls (v :: w :: v :: w :: S))) : Go p e below Fin' T (mkF m pc Ls (v :: w :: S)) := by
  subst hp; exact G.via fun _ k => XT.dup2 X.here C.1 rfl (hb C.2.2.2.1 hd) rfl hc hc' k
theorem Go.dup2L (C : Cx p s m meth c Z own nm bytes maxL ret) (X : Stand p l e R s m args below meth c T locs cells slots) {x : Int64} (hd : decode bytes pc = .ok (.dup2, 1))  (hp : pc + 1 = pc') (G : Go p e below Fin' T (mkF m pc' Ls (.long x :: .long x :: S))) : Go p e below Fin' T (mkF m pc Ls (.long x :: S)) := by
  subst hp; exact G.via fun _ k => XT.dup2L X.here C.1 rfl (hb C.2.2.2.1 hd) rfl k
theorem Go.goto (C : Cx p s m meth c Z own nm bytes maxL ret) (X : Stand p l e R s m args below meth c T locs cells slots)  {o : Int} (hd : decode bytes pc = .ok (.goto o, 3))  (ho : 0 ≤ (pc : Int) + o) (hp : ((pc : Int) + o).toNat = pc') (G : Go p e below Fin' T (mkF m pc' Ls S)) : Go p e below Fin' T (mkF m pc Ls S) :=
  G.via fun _ k => XS.goto X.here C.1 rfl rfl (hb C.2.2.2.1 hd) ho hp k
theorem Go.ifYes (C : Cx p s m meth c Z own nm bytes maxL ret) (X : Stand p l e R s m args below meth c T locs cells slots) {cd : ClassFile.Cond} {x : Int32} {o : Int} (hd : decode bytes pc = .ok (.ifCond cd o, 3)) (hc : ifCond.holds cd x = true) (ho : 0 ≤ (pc : Int) + o) (hp : ((pc : Int) + o).toNat = pc') (G : Go p e below Fin' T (mkF m pc' Ls S)) : Go p e below Fin' T (mkF m pc Ls (.int x :: S)) :=
  G.via fun _ k => XS.ifYes X.here C.1 rfl rfl (hb C.2.2.2.1 hd) rfl hc ho hp k
theorem Go.ifNo (C : Cx p s m meth c Z own nm bytes maxL ret) (X : Stand p l e R s m args below meth c T locs cells slots) {cd : ClassFile.Cond} {x : Int32} {o : Int} (hd : decode bytes pc = .ok (.ifCond cd o, 3)) (hc : ifCond.holds cd x = false) (hp : pc + 3 = pc') (G : Go p e below Fin' T (mkF m pc' Ls S)) : Go p e below Fin' T (mkF m pc Ls (.int x :: S)) := by
  subst hp; exact G.via fun _ k => XS.ifNo X.here C.1 rfl (hb C.2.2.2.1 hd) rfl hc k
theorem Go.icmpYes (C : Cx p s m meth c Z own nm bytes maxL ret) (X : Stand p l e R s m args below meth c T locs cells slots) {cd : ClassFile.Cond} {x y : Int32} {o : Int} (hd : decode bytes pc = .ok (.if_icmp cd o, 3)) (hc : if_icmp.holds cd x y = true) (ho : 0 ≤ (pc : Int) + o) (hp : ((pc : Int) + o).toNat = pc') (G : Go p e below Fin' T (mkF m pc' Ls S)) : Go p e below Fin' T (mkF m pc Ls (.int y :: .int x :: S)) :=
  G.via fun _ k => XS.icmpYes X.here C.1 rfl rfl (hb C.2.2.2.1 hd) rfl hc ho hp k
theorem Go.icmpNo (C : Cx p s m meth c Z own nm bytes maxL ret) (X : Stand p l e R s m args below meth c T locs cells slots) {cd : ClassFile.Cond} {x y : Int32} {o : Int} (hd : decode bytes pc = .ok (.if_icmp cd o, 3)) (hc : if_icmp.holds cd x y = false) (hp : pc + 3 = pc') (G : Go p e below Fin' T (mkF m pc' Ls S)) : Go p e below Fin' T (mkF m pc Ls (.int y :: .int x :: S)) := by
  subst hp; exact G.via fun _ k => XS.icmpNo X.here C.1 rfl (hb C.2.2.2.1 hd) rfl hc k
theorem Go.ifnullYes (C : Cx p s m meth c Z own nm bytes maxL ret) (X : Stand p l e R s m args below meth c T locs cells slots)  {o : Int} (hd : decode bytes pc = .ok (.ifnull o, 3))  (ho : 0 ≤ (pc : Int) + o) (hp : ((pc : Int) + o).toNat = pc') (G : Go p e below Fin' T (mkF m pc' Ls S)) : Go p e below Fin' T (mkF m pc Ls (.null :: S)) :=
  G.via fun _ k => XS.ifnullYes X.here C.1 rfl rfl (hb C.2.2.2.1 hd) rfl ho hp k
theorem Go.ifnullNo (C : Cx p s m meth c Z own nm bytes maxL ret) (X : Stand p l e R s m args below meth c T locs cells slots) {b : Addr} {o : Int} (hd : decode bytes pc = .ok (.ifnull o, 3))  (hp : pc + 3 = pc') (G : Go p e below Fin' T (mkF m pc' Ls S)) : Go p e below Fin' T (mkF m pc Ls (.ref b :: S)) := by
  subst hp; exact G.via fun _ k => XS.ifnullNo X.here C.1 rfl (hb C.2.2.2.1 hd) rfl k
theorem Go.ifnonnullYes (C : Cx p s m meth c Z own nm bytes maxL ret) (X : Stand p l e R s m args below meth c T locs cells slots) {b : Addr} {o : Int} (hd : decode bytes pc = .ok (.ifnonnull o, 3))  (ho : 0 ≤ (pc : Int) + o) (hp : ((pc : Int) + o).toNat = pc') (G : Go p e below Fin' T (mkF m pc' Ls S)) : Go p e below Fin' T (mkF m pc Ls (.ref b :: S)) :=
  G.via fun _ k => XS.ifnonnullYes X.here C.1 rfl rfl (hb C.2.2.2.1 hd) rfl ho hp k
theorem Go.ifnonnullNo (C : Cx p s m meth c Z own nm bytes maxL ret) (X : Stand p l e R s m args below meth c T locs cells slots)  {o : Int} (hd : decode bytes pc = .ok (.ifnonnull o, 3))  (hp : pc + 3 = pc') (G : Go p e below Fin' T (mkF m pc' Ls S)) : Go p e below Fin' T (mkF m pc Ls (.null :: S)) := by
  subst hp; exact G.via fun _ k => XS.ifnonnullNo X.here C.1 rfl (hb C.2.2.2.1 hd) rfl k
theorem Go.acmpYes (C : Cx p s m meth c Z own nm bytes maxL ret) (X : Stand p l e R s m args below meth c T locs cells slots) {cd : ClassFile.ACond} {v w : Value} {o : Int} (hd : decode bytes pc = .ok (.if_acmp cd o, 3)) (hv : v.isRef = true) (hw : w.isRef = true) (hc : XT.acmp cd v w = true) (ho : 0 ≤ (pc : Int) + o) (hp : ((pc : Int) + o).toNat = pc') (G : Go p e below Fin' T (mkF m pc' Ls S)) : Go p e below Fin' T (mkF m pc Ls (w :: v :: S)) :=
  G.via fun _ k => XT.acmpYes X.here C.1 rfl rfl (hb C.2.2.2.1 hd) rfl hv hw hc ho hp k
theorem Go.acmpNo (C : Cx p s m meth c Z own nm bytes maxL ret) (X : Stand p l e R s m args below meth c T locs cells slots) {cd : ClassFile.ACond} {v w : Value} {o : Int} (hd : decode bytes pc = .ok (.if_acmp cd o, 3)) (hv : v.isRef = true) (hw : w.isRef = true) (hc : XT.acmp cd v w = false) (hp : pc + 3 = pc') (G : Go p e below Fin' T (mkF m pc' Ls S)) : Go p e below Fin' T (mkF m pc Ls (w :: v :: S)) := by
  subst hp; exact G.via fun _ k => XT.acmpNo X.here C.1 rfl (hb C.2.2.2.1 hd) rfl hv hw hc k
theorem Go.tswIn (C : Cx p s m meth c Z own nm bytes maxL ret) (X : Stand p l e R s m args below meth c T locs cells slots) {dflt low high : Int} {offs : Array Int} {len : Nat} {o : Int} {i : Int32} (hd : decode bytes pc = .ok (.tableswitch dflt low high offs, len)) (hin : ¬ (i.toInt < low ∨ i.toInt > high)) (hoff : offs[(i.toInt - low).toNat]? = some o) (ho : 0 ≤ (pc : Int) + o) (hp : ((pc : Int) + o).toNat = pc') (G : Go p e below Fin' T (mkF m pc' Ls S)) : Go p e below Fin' T (mkF m pc Ls (.int i :: S)) :=
  G.via fun _ k => XS.tswIn X.here C.1 rfl rfl (hb C.2.2.2.1 hd) rfl hin hoff ho hp k
theorem Go.tswOut (C : Cx p s m meth c Z own nm bytes maxL ret) (X : Stand p l e R s m args below meth c T locs cells slots) {dflt low high : Int} {offs : Array Int} {len : Nat} {i : Int32} (hd : decode bytes pc = .ok (.tableswitch dflt low high offs, len)) (hout : i.toInt < low ∨ i.toInt > high) (ho : 0 ≤ (pc : Int) + dflt) (hp : ((pc : Int) + dflt).toNat = pc') (G : Go p e below Fin' T (mkF m pc' Ls S)) : Go p e below Fin' T (mkF m pc Ls (.int i :: S)) :=
  G.via fun _ k => XS.tswOut X.here C.1 rfl rfl (hb C.2.2.2.1 hd) rfl hout ho hp k
/-! the returns -/
theorem Go.retV (C : Cx p s m meth c Z own nm bytes maxL ret) (X : Stand p l e R s m args below meth c T locs cells slots)  (hr : ret = none) (hd : decode bytes pc = .ok (.return_, 1))  (hq : Q none T.heap locs) (hc : cells ≤ RC) (hs : slots ≤ RS) : Go p e below (Fn s RC RS Q) T (mkF m pc Ls []) := by
  have hret := C.2.2.2.2.2.1
  have hlk := C.2.2.2.2.2.2.2
  rw [hr] at hret
  obtain ⟨fs, hl, hrun, hended, hW, hsame⟩ := X.leave (v := none) (fun h => by first | rfl | (rw [hret] at h; cases h)) hlk
  exact ⟨_, _, X.returnOut C.1 hret (hb C.2.2.2.1 hd) hl, hrun, hended, _, _, rfl, hq, ⟨_, rfl⟩, hW, hsame.mono hc hs⟩
theorem Go.retN (C : Cx p s m meth c Z own nm bytes maxL ret) (X : Stand p l e R s m args below meth c T locs cells slots) {t : FieldType} {z : Int32} (hr : ret = some t) (hd : decode bytes pc = .ok (.ireturn, 1)) (ht : t = .boolean ∨ t = .byte ∨ t = .char ∨ t = .short) (hq : Q (some (.int (nar t z))) T.heap locs) (hc : cells ≤ RC) (hs : slots ≤ RS) : Go p e below (Fn s RC RS Q) T (mkF m pc Ls (.int z :: S)) := by
  have hret := C.2.2.2.2.2.1
  have hlk := C.2.2.2.2.2.2.2
  rw [hr] at hret
  obtain ⟨fs, hl, hrun, hended, hW, hsame⟩ := X.leave (v := (some (.int (nar t z)))) (fun h => by first | rfl | (rw [hret] at h; cases h)) hlk
  exact ⟨_, _, Jvm.RoadKit.retN X C.1 hret ht (hb C.2.2.2.1 hd) hl, hrun, hended, _, _, rfl, hq, ⟨_, rfl⟩, hW, hsame.mono hc hs⟩
theorem Go.retI (C : Cx p s m meth c Z own nm bytes maxL ret) (X : Stand p l e R s m args below meth c T locs cells slots) {z : Int32} (hr : ret = some .int) (hd : decode bytes pc = .ok (.ireturn, 1))  (hq : Q (some (.int z)) T.heap locs) (hc : cells ≤ RC) (hs : slots ≤ RS) : Go p e below (Fn s RC RS Q) T (mkF m pc Ls (.int z :: S)) := by
  have hret := C.2.2.2.2.2.1
  have hlk := C.2.2.2.2.2.2.2
  rw [hr] at hret
  obtain ⟨fs, hl, hrun, hended, hW, hsame⟩ := X.leave (v := (some (.int z))) (fun h => by first | rfl | (rw [hret] at h; cases h)) hlk
  exact ⟨_, _, retOut X C.1 hret rfl (Or.inl ⟨rfl, Or.inl rfl, z, rfl⟩) (hb C.2.2.2.1 hd) hl, hrun, hended, _, _, rfl, hq, ⟨_, rfl⟩, hW, hsame.mono hc hs⟩
theorem Go.retJ (C : Cx p s m meth c Z own nm bytes maxL ret) (X : Stand p l e R s m args below meth c T locs cells slots) {z : Int64} (hr : ret = some .long) (hd : decode bytes pc = .ok (.lreturn, 1))  (hq : Q (some (.long z)) T.heap locs) (hc : cells ≤ RC) (hs : slots ≤ RS) : Go p e below (Fn s RC RS Q) T (mkF m pc Ls (.long z :: S)) := by
  have hret := C.2.2.2.2.2.1
  have hlk := C.2.2.2.2.2.2.2
  rw [hr] at hret
  obtain ⟨fs, hl, hrun, hended, hW, hsame⟩ := X.leave (v := (some (.long z))) (fun h => by first | rfl | (rw [hret] at h; cases h)) hlk
  exact ⟨_, _, retOut X C.1 hret rfl (Or.inr (Or.inl ⟨rfl, rfl, z, rfl⟩)) (hb C.2.2.2.1 hd) hl, hrun, hended, _, _, rfl, hq, ⟨_, rfl⟩, hW, hsame.mono hc hs⟩
theorem Go.retA (C : Cx p s m meth c Z own nm bytes maxL ret) (X : Stand p l e R s m args below meth c T locs cells slots) {t : FieldType} {v : Value} (hr : ret = some t) (hd : decode bytes pc = .ok (.areturn, 1)) (ht : t.isReference = true) (hv : v.isRef = true) (hn : narrow t v = v) (hq : Q (some v) T.heap locs) (hc : cells ≤ RC) (hs : slots ≤ RS) : Go p e below (Fn s RC RS Q) T (mkF m pc Ls (v :: S)) := by
  have hret := C.2.2.2.2.2.1
  have hlk := C.2.2.2.2.2.2.2
  rw [hr] at hret
  obtain ⟨fs, hl, hrun, hended, hW, hsame⟩ := X.leave (v := (some v)) (fun h => by first | rfl | (rw [hret] at h; cases h)) hlk
  exact ⟨_, _, retOut X C.1 hret hn (Or.inr (Or.inr (Or.inr (Or.inr ⟨rfl, ht, hv⟩)))) (hb C.2.2.2.1 hd) hl, hrun, hended, _, _, rfl, hq, ⟨_, rfl⟩, hW, hsame.mono hc hs⟩
/-! arrays whose elements are all known -/
def AL (Z : State) (h : Heap) (a : Addr) (k : ClassId) (ty : FieldType) (vs : List Value) : Prop := ∃ c : Cell, Arr Z h a c ty ∧ c.cls = k ∧ c.slots = vs.toArray
theorem AL.lt {a : Addr} {k : ClassId} {ty : FieldType} {vs : List Value} (F : AL Z h a k ty vs) : a < h.size := by obtain ⟨c, A, -⟩ := F; exact A.lt
theorem AL.ext {h' : Heap} {a : Addr} {k : ClassId} {ty : FieldType} {vs : List Value} (E : Ext h h') (F : AL Z h a k ty vs) : AL Z h' a k ty vs := by obtain ⟨c, A, r⟩ := F; exact ⟨c, A.ext E, r⟩
theorem AL.other {h' : Heap} {a b : Addr} {sl : Nat} {v : Value} {k : ClassId} {ty : FieldType} {vs : List Value} (W : Wr h h' a sl v) (F : AL Z h b k ty vs) (q : b ≠ a) : AL Z h' b k ty vs := by obtain ⟨c, A, r⟩ := F; exact ⟨c, A.other W q, r⟩
theorem AL.keep {h' : Heap} {a : Addr} {ws : List Addr} {k : ClassId} {ty : FieldType} {vs : List Value} (F : AL Z h a k ty vs) (K : Keep h h' ws) (q : a ∉ ws) : AL Z h' a k ty vs := by obtain ⟨c, A, r⟩ := F; exact ⟨c, ⟨K.2.1 a c A.1 q, A.2⟩, r⟩
theorem AL.set {h' : Heap} {a : Addr} {i : Nat} {v : Value} {k : ClassId} {ty : FieldType} {vs : List Value} (F : AL Z h a k ty vs) (W : Wr h h' a i v) : AL Z h' a k ty (vs.set i v) := by
  obtain ⟨c, A, r1, r2⟩ := F
  exact ⟨_, A.same W, r1, by simp [Cell.setSlot, r2]⟩
theorem AL.new {a : Addr} {k : ClassId} {ty : FieldType} {n : Int32} (A : Arr Z h a (newA k ty n) ty) : AL Z h a k ty (List.replicate n.toNatClampNeg (defaultValue ty)) := ⟨_, A, rfl, by simp [newA]⟩
theorem AL.arv {a : Addr} {k : ClassId} {ty : FieldType} {n : Int32} {vs : List Value} {dv : Value} (F : AL Z h a k ty vs) (hn : ¬ n < 0) (hl : n.toNatClampNeg = vs.length) (hf : ∀ v ∈ vs, fits ty v = true) : Arv Z h a k ty n vs dv := by
  obtain ⟨c, A, r1, r2⟩ := F
  refine ⟨c, A, r1, by rw [r2]; simp [hl], hn, fun i hi => ?_, fun i hi => ?_⟩
  · have hi' : i < vs.length := by simpa [r2] using hi
    simp [r2, List.getD, List.getElem?_eq_getElem hi']
  · have hi' : i < vs.length := by simpa [r2] using hi
    have q : vs.getD i dv = vs[i] := by simp [List.getD, List.getElem?_eq_getElem hi']
    rw [q]; exact hf _ (List.getElem_mem hi')
theorem AL.of_arv {a : Addr} {k : ClassId} {ty : FieldType} {n : Int32} {vs : List Value} {dv : Value} (F : Arv Z h a k ty n vs dv) (hl : n.toNatClampNeg = vs.length) : AL Z h a k ty vs := by
  obtain ⟨c, A, r1, r2, -, H, -⟩ := F
  refine ⟨c, A, r1, ?_⟩
  apply Array.ext_getElem?
  intro i
  by_cases hi : i < c.slots.size
  · have hi' : i < vs.length := by omega
    rw [H i hi]
    simp [List.getD, List.getElem?_eq_getElem hi']
  · have hi' : vs.length ≤ i := by omega
    rw [Array.getElem?_eq_none (by omega)]
    simp [List.getElem?_eq_none hi']
theorem Sta.old {n d K1 : String} {v : Value} (F : Sta Z Z.heap K1 n d v) (O : Ext Z.heap h) : Sta Z h K1 n d v := F.ext O
theorem Ext.trans {h1 h2 h3 : Heap} (E : Ext h1 h2) (E' : Ext h2 h3) : Ext h1 h3 := ⟨Nat.le_trans E.1 E'.1, fun x c q => E'.2 x c (E.2 x c q)⟩
theorem Ext.refl (h : Heap) : Ext h h := ⟨Nat.le_refl _, fun _ _ q => q⟩
theorem Ext.wr {h1 h2 h3 : Heap} {a : Addr} {sl : Nat} {v : Value} (E : Ext h1 h2) (W : Wr h2 h3 a sl v) (q : h1.size ≤ a) : Ext h1 h3 := by
  refine ⟨by rw [W.size]; exact E.1, fun x c hx => ?_⟩
  obtain ⟨c', e1, -, -, -, e5, -⟩ := wr_at W (E.2 x c hx)
  have ne : x ≠ a := fun e => absurd (Array.getElem?_eq_some_iff.mp hx).1 (by rw [e]; exact Nat.not_lt.mpr q)
  rw [← e5 ne]; exact e1
theorem Ext.keep {h1 h2 h3 : Heap} {ws : List Addr} (E : Ext h1 h2) (K : Keep h2 h3 ws) (q : ∀ x ∈ ws, h1.size ≤ x) : Ext h1 h3 := ⟨Nat.le_trans E.1 K.1, fun x c hx => K.2.1 x c (E.2 x c hx) fun z => absurd (Array.getElem?_eq_some_iff.mp hx).1 (Nat.not_lt.mpr (q x z))⟩
theorem Keep.toExt {h1 h2 : Heap} (K : Keep h1 h2 []) : Ext h1 h2 := ⟨K.1, fun x c hx => K.2.1 x c hx (fun z => nomatch z)⟩
theorem Keep.of_ext {h1 h2 : Heap} {ws : List Addr} (E : Ext h1 h2) : Keep h1 h2 ws := (Keep.refl h1 ws).ext E
theorem Keep.drop {h1 h2 : Heap} {ws ws' : List Addr} (K : Keep h1 h2 ws) (q : ∀ x ∈ ws, x ∈ ws' ∨ h1.size ≤ x) : Keep h1 h2 ws' := (Keep.refl h1 ws').trans K q
theorem Ins.keep {h' : Heap} {a : Addr} {ws : List Addr} {K1 : String} {bo : Bool} (F : Ins Z h a K1 bo) (K : Keep h h' ws) : Ins Z h' a K1 bo := by
  obtain ⟨cell, cT, h1, h2, h3⟩ := F
  obtain ⟨c', e1, e2, e3, -⟩ := K.2.2 _ _ h1
  exact ⟨c', cT, e1, h2, by rw [e2, e3]; exact h3⟩
/-! steps that read the tables or the heap -/
theorem Go.getF (C : Cx p s m meth c Z own nm bytes maxL ret) (X : Stand p l e R s m args below meth c T locs cells slots) {idx : Nat} {R0 O n d host : String} {a : Addr} {v : Value} (w : (Cond.fieldLink own idx R0 n d).before a0 Z = true ∨ (Cond.fieldLinkNest own idx R0 n d host).before a0 Z = true) (via : Via Z R0 O n d) (eT : T.heap = h) (F : Fld Z h a O n d v) (hd : decode bytes pc = .ok (.getfield idx, 3)) (hp : pc + 3 = pc')
    (K : ∀ T', Stand p l e R s m args below meth c T' locs cells slots → T'.heap = h → Go p e below Fin' T' (mkF m pc' Ls (v :: S))) : Go p e below Fin' T (mkF m pc Ls (.ref a :: S)) := by
  subst hp
  obtain ⟨T', X', e', st⟩ := Jvm.RoadKit.getF X C.1 C.2.1 C.2.2.1 w via eT F (g := mkF m pc Ls (.ref a :: S)) rfl rfl (hb C.2.2.2.1 hd)
  exact (K T' X' e').via st
theorem Go.getS (C : Cx p s m meth c Z own nm bytes maxL ret) (X : Stand p l e R s m args below meth c T locs cells slots) {idx : Nat} {R0 O n d host : String} {v : Value} (w : (Cond.fieldLink own idx R0 n d).before a0 Z = true ∨ (Cond.fieldLinkNest own idx R0 n d host).before a0 Z = true) (via : Via Z R0 O n d) (eT : T.heap = h) (F : Sta Z h O n d v) (hd : decode bytes pc = .ok (.getstatic idx, 3)) (hp : pc + 3 = pc')
    (K : ∀ T', Stand p l e R s m args below meth c T' locs cells slots → T'.heap = h → Go p e below Fin' T' (mkF m pc' Ls (v :: S))) : Go p e below Fin' T (mkF m pc Ls S) := by
  subst hp
  obtain ⟨T', X', e', st⟩ := getS2 X C.1 C.2.1 C.2.2.1 w via eT F (g := mkF m pc Ls S) rfl (hb C.2.2.2.1 hd)
  exact (K T' X' e').via st
theorem Go.putF (C : Cx p s m meth c Z own nm bytes maxL ret) (X : Stand p l e R s m args below meth c T locs cells slots) {idx kk : Nat} {R0 O n d host K1 : String} {a : Addr} {v old : Value} {ty : FieldType} (w : (Cond.fieldLink own idx R0 n d).before a0 Z = true ∨ (Cond.fieldLinkNest own idx R0 n d host).before a0 Z = true) (via : Via Z R0 O n d) (eT : T.heap = h) (F : Fld Z h a O n d old) (E : Exa Z h a K1) (L : (Cond.lays K1 O n d).before a0 Z = true ∨ ((Cond.laysFinal K1 O n d).before a0 Z = true ∧ own = O ∧ nm = "<init>")) (wi : (Cond.instantiable K1 kk).before a0 Z = true) (hty : parseFieldDescriptor d = some ty) (hn : narrow ty v = v) (hf : fits ty v = true) (hd : decode bytes pc = .ok (.putfield idx, 3)) (hp : pc + 3 = pc')
    (K : ∀ T' h', Stand p l e R s m args below meth c T' (locs ++ [⟨a, slotOf Z O n d⟩]) cells slots → T'.heap = h' → Wr h h' a (slotOf Z O n d) v → Fld Z h' a O n d v → Go p e below Fin' T' (mkF m pc' Ls S)) : Go p e below Fin' T (mkF m pc Ls (v :: .ref a :: S)) := by
  subst hp
  obtain ⟨T', h', X', e', W', st⟩ := Jvm.RoadKit.putF X C.1 C.2.1 C.2.2.1 w via eT F E (L.imp id fun q => ⟨q.1, q.2.1, C.2.2.2.2.2.2.1.trans q.2.2⟩) wi hty hn hf (g := mkF m pc Ls (v :: .ref a :: S)) rfl rfl (hb C.2.2.2.1 hd)
  exact (K T' h' X' e' W' (F.same W')).via st
theorem Go.putFN (C : Cx p s m meth c Z own nm bytes maxL ret) (X : Stand p l e R s m args below meth c T locs cells slots) {idx kk : Nat} {R0 O n d K1 : String} {a : Addr} {v v' old : Value} {ty : FieldType} (w : (Cond.fieldLink own idx R0 n d).before a0 Z = true) (via : Via Z R0 O n d) (eT : T.heap = h) (F : Fld Z h a O n d old) (E : Exa Z h a K1) (L : (Cond.lays K1 O n d).before a0 Z = true ∨ ((Cond.laysFinal K1 O n d).before a0 Z = true ∧ own = O ∧ nm = "<init>")) (wi : (Cond.instantiable K1 kk).before a0 Z = true) (hty : parseFieldDescriptor d = some ty) (hn : narrow ty v = v') (hf : fits ty v' = true) (hd : decode bytes pc = .ok (.putfield idx, 3)) (hp : pc + 3 = pc')
    (K : ∀ T' h', Stand p l e R s m args below meth c T' (locs ++ [⟨a, slotOf Z O n d⟩]) cells slots → T'.heap = h' → Wr h h' a (slotOf Z O n d) v' → Fld Z h' a O n d v' → Go p e below Fin' T' (mkF m pc' Ls S)) : Go p e below Fin' T (mkF m pc Ls (v :: .ref a :: S)) := by
  subst hp
  obtain ⟨T', h', X', e', W', st⟩ := Jvm.RoadKit.putFN X C.1 C.2.1 C.2.2.1 w via eT F E (L.imp id fun q => ⟨q.1, q.2.1, C.2.2.2.2.2.2.1.trans q.2.2⟩) wi hty hn hf (g := mkF m pc Ls (v :: .ref a :: S)) rfl rfl (hb C.2.2.2.1 hd)
  exact (K T' h' X' e' W' (F.same W')).via st
theorem Go.newO (C : Cx p s m meth c Z own nm bytes maxL ret) (X : Stand p l e R s m args below meth c T locs cells slots) {idx n : Nat} {K1 : String} (w : (Cond.classLink own idx K1).before a0 Z = true) (wi : (Cond.instantiable K1 n).before a0 Z = true) (wz : (Cond.initialized K1).before a0 Z = true) (eT : T.heap = h) (hc : cells + 1 ≤ R.cells) (hl : slots + n ≤ R.slots) (hd : decode bytes pc = .ok (.new idx, 3)) (hp : pc + 3 = pc')
    (K : ∀ T' h' b, Stand p l e R s m args below meth c T' locs (cells + 1) (slots + n) → T'.heap = h' → b = h.size → Ext h h' → Exa Z h' b K1 → (∀ {O nm d : String} {ty : FieldType}, Laid Z a0 K1 O nm d → parseFieldDescriptor d = some ty → Fld Z h' b O nm d (defaultValue ty)) → Go p e below Fin' T' (mkF m pc' Ls (.ref b :: S))) : Go p e below Fin' T (mkF m pc Ls S) := by
  subst hp
  obtain ⟨T', h', X', e', E', A', D', -, st⟩ := Jvm.RoadKit.newO X C.1 C.2.1 C.2.2.1 w wi wz eT (g := mkF m pc Ls S) rfl (hb C.2.2.2.1 hd) hc hl
  exact (K T' h' h.size X' e' rfl E' A' D').via st
theorem Go.newP (C : Cx p s m meth c Z own nm bytes maxL ret) (X : Stand p l e R s m args below meth c T locs cells slots) {aty : ArrayType} {n : Int32} {cap : Nat} {vs : List Value} {ad : String} (had : "[" ++ (newarray.typeOf aty).toString = ad) (w : (Cond.arrayClass (newarray.typeOf aty)).before a0 Z = true) (eT : T.heap = h) (hn : ¬ n < 0) (hcap : n.toNatClampNeg ≤ cap) (hb8 : cap * 8 ≤ 536870912) (hc : cells + 1 ≤ R.cells) (hl : slots + cap ≤ R.slots) (hvs : List.replicate n.toNatClampNeg (defaultValue (newarray.typeOf aty)) = vs) (hd : decode bytes pc = .ok (.newarray aty, 2)) (hp : pc + 2 = pc')
    (K : ∀ T' h' b k, Stand p l e R s m args below meth c T' locs (cells + 1) (slots + cap) → T'.heap = h' → b = h.size → Ext h h' → AL Z h' b k (newarray.typeOf aty) vs → Exa Z h' b ad → Go p e below Fin' T' (mkF m pc' Ls (.ref b :: S))) : Go p e below Fin' T (mkF m pc Ls (.int n :: S)) := by
  subst hp
  obtain ⟨T', h', k, X', e', E', A', E2, st⟩ := Jvm.RoadKit.newPE X C.1 C.2.1 w eT (g := mkF m pc Ls (.int n :: S)) rfl (hb C.2.2.2.1 hd) rfl hn hcap hb8 hc hl had
  exact (K T' h' h.size k X' e' rfl E' (hvs ▸ AL.new A') E2).via st
theorem Go.newR (C : Cx p s m meth c Z own nm bytes maxL ret) (X : Stand p l e R s m args below meth c T locs cells slots) {idx : Nat} {K1 ad : String} {n : Int32} {cap : Nat} {vs : List Value} (had : "[" ++ (FieldType.object K1).toString = ad) (w : (Cond.classLink own idx K1).before a0 Z = true) (w2 : (Cond.arrayOver (.object K1)).before a0 Z = true) (eT : T.heap = h) (hn : ¬ n < 0) (hcap : n.toNatClampNeg ≤ cap) (hb8 : cap * 8 ≤ 536870912) (hc : cells + 1 ≤ R.cells) (hl : slots + cap ≤ R.slots) (hvs : List.replicate n.toNatClampNeg (defaultValue (.object K1)) = vs) (hd : decode bytes pc = .ok (.anewarray idx, 3)) (hp : pc + 3 = pc')
    (K : ∀ T' h' b k, Stand p l e R s m args below meth c T' locs (cells + 1) (slots + cap) → T'.heap = h' → b = h.size → Ext h h' → AL Z h' b k (.object K1) vs → Exa Z h' b ad → Ovr Z k K1 → Go p e below Fin' T' (mkF m pc' Ls (.ref b :: S))) : Go p e below Fin' T (mkF m pc Ls (.int n :: S)) := by
  subst hp
  obtain ⟨T', h', k, X', e', E', A', E2, O', st⟩ := Jvm.RoadKit.newRE X C.1 C.2.1 C.2.2.1 w w2 eT (g := mkF m pc Ls (.int n :: S)) rfl (hb C.2.2.2.1 hd) rfl hn hcap hb8 hc hl had
  exact (K T' h' h.size k X' e' rfl E' (hvs ▸ AL.new A') E2 O').via st
theorem Go.newRA (C : Cx p s m meth c Z own nm bytes maxL ret) (X : Stand p l e R s m args below meth c T locs cells slots) {idx : Nat} {K1 ad : String} {ty : FieldType} {n : Int32} {cap : Nat} {vs : List Value} (hC : (FieldType.array ty).toString = K1) (had : "[" ++ K1 = ad) (w : (Cond.classLink own idx K1).before a0 Z = true) (w2 : (Cond.arrayOver (.array ty)).before a0 Z = true) (eT : T.heap = h) (hn : ¬ n < 0) (hcap : n.toNatClampNeg ≤ cap) (hb8 : cap * 8 ≤ 536870912) (hc : cells + 1 ≤ R.cells) (hl : slots + cap ≤ R.slots) (hvs : List.replicate n.toNatClampNeg (defaultValue (.array ty)) = vs) (hd : decode bytes pc = .ok (.anewarray idx, 3)) (hp : pc + 3 = pc')
    (K : ∀ T' h' b k, Stand p l e R s m args below meth c T' locs (cells + 1) (slots + cap) → T'.heap = h' → b = h.size → Ext h h' → AL Z h' b k (.array ty) vs → Exa Z h' b ad → OvrA Z k ty K1 → Go p e below Fin' T' (mkF m pc' Ls (.ref b :: S))) : Go p e below Fin' T (mkF m pc Ls (.int n :: S)) := by
  subst hp
  obtain ⟨T', h', k, X', e', E', A', E2, O', st⟩ := Jvm.RoadKit.newRA X C.1 C.2.1 C.2.2.1 hC w w2 eT (g := mkF m pc Ls (.int n :: S)) rfl (hb C.2.2.2.1 hd) rfl hn hcap hb8 hc hl had
  exact (K T' h' h.size k X' e' rfl E' (hvs ▸ AL.new A') E2 O').via st
theorem AL.stoA {a y : Addr} {k : ClassId} {t0 ty : FieldType} {vs : List Value} {K1 : String} (F : AL Z h a k t0 vs) (O : OvrA Z k ty K1) (I : Ins Z h y K1 true) : Sto Z h a (.ref y) := by
  obtain ⟨c, A, r, -⟩ := F; exact Sto.ofVA A r O I
theorem Go.getFR (C : Cx p s m meth c Z own nm bytes maxL ret) (X : Stand p l e R s m args below meth c T locs cells slots) {idx : Nat} {O n d : String} {a : Addr} {v : Value} (w : (Cond.fieldRef own idx O n d).before a0 Z = true) (eT : T.heap = h) (F : Fld Z h a O n d v) (hd : decode bytes pc = .ok (.getfield idx, 3)) (hp : pc + 3 = pc')
    (K : Go p e below Fin' T (mkF m pc' Ls (v :: S))) : Go p e below Fin' T (mkF m pc Ls (.ref a :: S)) := by
  subst hp
  obtain ⟨cell, cf, k, i, f, h1, h2, h3, h4, -, -, h7⟩ := F
  have hZT : Z.Warmed39 T.vm := wtrans C.2.1 X.warmed
  have w' : (Cond.fieldRef own idx O n d).before args T = true := (Cond.fieldRef_warmed39 hZT w :)
  have hown : T.vm.findClass own = some m.cls := by rw [X.warmed.alike.findClass]; exact C.2.2.1
  obtain ⟨c', k', i', f', e1, hr⟩ := Cond.fieldRef_spec hown w'
  obtain ⟨k2, q1, -⟩ := State.fieldFound?_setVm (s := Z) hZT.alike h2
  have q1' : T.fieldFound? O n d = some (cf, k2, i, f) := q1
  cases q1'.symm.trans e1
  exact K.via fun t kt => (X.getfieldR C.1 (g := mkF m pc Ls (.ref a :: S)) rfl hr h3 rfl (by rw [eT]; exact h1) h4 h7 (hb C.2.2.2.1 hd) (Steps.refl _)).trans kt
theorem Go.clone (C : Cx p s m meth c Z own nm bytes maxL ret) (X : Stand p l e R s m args below meth c T locs cells slots) {idx : Nat} {ad : String} {a : Addr} {k : ClassId} {ty : FieldType} {vs : List Value} {W cap : Nat} (w1 : (Cond.methodLink own idx ⟨ad, "clone", "()Ljava/lang/Object;"⟩).before a0 Z = true) (w2 : (Cond.sameMethod ad "java/lang/Object" "clone" "()Ljava/lang/Object;").before a0 Z = true) (w3 : (Cond.native ⟨"java/lang/Object", "clone", "()Ljava/lang/Object;"⟩).before a0 Z = true) (w4 : (Cond.instanceMethod ⟨"java/lang/Object", "clone", "()Ljava/lang/Object;"⟩).before a0 Z = true) (w5 : (Cond.selects ad ⟨ad, "clone", "()Ljava/lang/Object;"⟩ ⟨"java/lang/Object", "clone", "()Ljava/lang/Object;"⟩).before a0 Z = true) (w6 : (Cond.castable ad "java/lang/Cloneable").before a0 Z = true) (eT : T.heap = h) (F : AL Z h a k ty vs) (E : Exa Z h a ad) (hfit : ∀ v ∈ vs, fits ty v = true) (hls : Ls.size = maxL) (hf : 1 ≤ R.frames) (hW : (S.map fun v => v.category).sum ≤ W) (hlo : W + 14 ≤ R.locals) (hcap : vs.length ≤ cap) (hc : cells + 1 ≤ R.cells) (hsl : slots + cap ≤ R.slots) (hd : decode bytes pc = .ok (.invokevirtual idx, 3)) (hp : pc + 3 = pc')
    (K : ∀ T' h' b, Stand p l e R s m args below meth c T' locs (cells + 1) (slots + cap) → T'.heap = h' → b = h.size → Ext h h' → AL Z h' b k ty vs → Exa Z h' b ad → Go p e below Fin' T' (mkF m pc' Ls (.ref b :: S))) : Go p e below Fin' T (mkF m pc Ls (.ref a :: S)) := by
  subst hp
  obtain ⟨cl, A, q1, q2⟩ := F
  have FC : FitC Z cl := fitC_of A fun i hi v hv => by
    rw [q2] at hv
    exact hfit v (List.mem_of_getElem? (by simpa using hv))
  have hsz : cl.slots.size = vs.length := by rw [q2]; simp
  obtain ⟨T', h', X', e', ex, A', E', st⟩ := cloneA X C.1 C.2.1 C.2.2.1 w1 w2 w3 w4 w5 w6 eT A E FC (g := mkF m pc Ls (.ref a :: S)) rfl (by show Ls.size = _; rw [C.2.2.2.2.1]; exact hls) rfl (hb C.2.2.2.1 hd) hf (W := W) (by show 2 * 0 + _ ≤ _; omega) hlo (cap := cap) (by omega) hc hsl
  exact (K T' h' h.size X' e' rfl ex ⟨cloneOf cl, A', q1, q2⟩ E').via st
theorem range_drop (vs : List Value) (dv : Value) (i n : Nat) (hn : i + n ≤ vs.length) : ((List.range n).map fun j => vs.getD (i + j) dv) = (vs.drop i).take n := by
  apply List.ext_getElem
  · simp; omega
  · intro j h1 h2
    have h3 : i + j < vs.length := by simp at h1; omega
    simp [List.getD, List.getElem?_eq_getElem h3]
theorem Go.arrcopy (C : Cx p s m meth c Z own nm bytes maxL ret) (X : Stand p l e R s m args below meth c T locs cells slots) {idx : Nat} {a b : Addr} {k k' : ClassId} {ty ty' : FieldType} {vs vd vd' : List Value} {sp dp nn : Int32} {i j n W : Nat} (w1 : (Cond.methodLink own idx Jvm.Stand.acN).before a0 Z = true) (w2 : (Cond.native Jvm.Stand.acN).before a0 Z = true) (w3 : (Cond.static Jvm.Stand.acN).before a0 Z = true) (w4 : (Cond.initialized "java/lang/System").before a0 Z = true) (eT : T.heap = h) (A : AL Z h a k ty vs) (B : AL Z h b k' ty' vd) (hfa : ∀ v ∈ vs, fits ty v = true) (hfb : ∀ v ∈ vd, fits ty' v = true) (hla : vs.length < 2 ^ 31) (hlb : vd.length < 2 ^ 31) (hty : (ty = ty' ∧ refKind ty = false) ∨ (refKind ty = true ∧ refKind ty' = true ∧ StoL Z h b ((vs.drop i).take n))) (h1 : ¬ sp < 0) (h2 : ¬ dp < 0) (h3 : ¬ nn < 0) (hi : sp.toNatClampNeg = i) (hj : dp.toNatClampNeg = j) (hn : nn.toNatClampNeg = n) (h4 : i + n ≤ vs.length) (h5 : j + n ≤ vd.length) (hvd : vd.take j ++ (vs.drop i).take n ++ vd.drop (j + n) = vd') {n0 : Nat} (N : Fr n0 locs) (ge : n0 ≤ b) (hls : Ls.size = maxL) (hf : 1 ≤ R.frames) (hW : (S.map fun v => v.category).sum ≤ W) (hlo : W + (nativeFrameWords "java/lang/System" "arraycopy" 5 + 11) ≤ R.locals) (hd : decode bytes pc = .ok (.invokestatic idx, 3)) (hp : pc + 3 = pc')
    (K : ∀ T' h' L, Stand p l e R s m args below meth c T' L cells slots → T'.heap = h' → Fr n0 L → Keep h h' [b] → AL Z h' b k' ty' vd' → Go p e below Fin' T' (mkF m pc' Ls S)) : Go p e below Fin' T (mkF m pc Ls (.int nn :: .int dp :: .ref b :: .int sp :: .ref a :: S)) := by
  subst hp
  subst hi hj hn hvd
  have za : vs.length.toInt32.toNatClampNeg = vs.length := by simp only [Int32.toNatClampNeg, len_toInt hla]; omega
  have zb : vd.length.toInt32.toNatClampNeg = vd.length := by simp only [Int32.toNatClampNeg, len_toInt hlb]; omega
  have na : ¬ vs.length.toInt32 < 0 := by simp only [Int32.lt_iff_toInt_lt, len_toInt hla, Int32.reduceToInt]; omega
  have nb : ¬ vd.length.toInt32 < 0 := by simp only [Int32.lt_iff_toInt_lt, len_toInt hlb, Int32.reduceToInt]; omega
  have A' : Arv Z h a k ty vs.length.toInt32 vs .null := A.arv na za hfa
  have B' : Arv Z h b k' ty' vd.length.toInt32 vd .null := B.arv nb zb hfb
  obtain ⟨T', h', L, X', e', N', K', R', st⟩ := cpA X C.1 C.2.1 C.2.2.1 w1 w2 w3 w4 eT A' B' hty h1 h2 h3 (by rw [za]; exact h4) (by rw [zb]; exact h5) (range_drop vs .null _ _ h4).symm h5 N ge (g := mkF m pc Ls (.int nn :: .int dp :: .ref b :: .int sp :: .ref a :: S)) rfl (by show Ls.size = _; rw [C.2.2.2.2.1]; exact hls) rfl (hb C.2.2.2.1 hd) hf (W := W) (by show 2 * 0 + _ ≤ _; omega) hlo
  exact (K T' h' L X' e' N' K' (AL.of_arv R' (by rw [zb]; simp; omega))).via st
theorem Go.castY (C : Cx p s m meth c Z own nm bytes maxL ret) (X : Stand p l e R s m args below meth c T locs cells slots) {idx : Nat} {K1 : String} {a : Addr} (w : (Cond.classLink own idx K1).before a0 Z = true) (eT : T.heap = h) (F : Ins Z h a K1 true) (hd : decode bytes pc = .ok (.checkcast idx, 3)) (hp : pc + 3 = pc')
    (K : ∀ T', Stand p l e R s m args below meth c T' locs cells slots → T'.heap = h → Go p e below Fin' T' (mkF m pc' Ls (.ref a :: S))) : Go p e below Fin' T (mkF m pc Ls (.ref a :: S)) := by
  subst hp
  obtain ⟨T', X', e', st⟩ := Jvm.RoadKit.castY X C.1 C.2.1 C.2.2.1 w eT F (g := mkF m pc Ls (.ref a :: S)) rfl rfl (hb C.2.2.2.1 hd)
  exact (K T' X' e').via st
theorem Go.instY (C : Cx p s m meth c Z own nm bytes maxL ret) (X : Stand p l e R s m args below meth c T locs cells slots) {idx : Nat} {K1 : String} {a : Addr} (w : (Cond.classLink own idx K1).before a0 Z = true) (eT : T.heap = h) (F : Ins Z h a K1 true) (hd : decode bytes pc = .ok (.instanceof idx, 3)) (hp : pc + 3 = pc')
    (K : ∀ T', Stand p l e R s m args below meth c T' locs cells slots → T'.heap = h → Go p e below Fin' T' (mkF m pc' Ls (.int 1 :: S))) : Go p e below Fin' T (mkF m pc Ls (.ref a :: S)) := by
  subst hp
  obtain ⟨T', X', e', st⟩ := Jvm.RoadKit.instY X C.1 C.2.1 C.2.2.1 w eT F (g := mkF m pc Ls (.ref a :: S)) rfl rfl (hb C.2.2.2.1 hd)
  exact (K T' X' e').via st
theorem Go.gcls (C : Cx p s m meth c Z own nm bytes maxL ret) (X : Stand p l e R s m args below meth c T locs cells slots) {idx : Nat} {K1 : String} {a mr : Addr} {W : Nat} (w1 : (Cond.methodLink own idx ⟨"java/lang/Object", "getClass", "()Ljava/lang/Class;"⟩).before a0 Z = true) (w2 : (Cond.declares ⟨"java/lang/Object", "getClass", "()Ljava/lang/Class;"⟩).before a0 Z = true) (w3 : (Cond.noSuperclass "java/lang/Object").before a0 Z = true) (w4 : (Cond.selects K1 ⟨"java/lang/Object", "getClass", "()Ljava/lang/Class;"⟩ ⟨"java/lang/Object", "getClass", "()Ljava/lang/Class;"⟩).before a0 Z = true) (w5 : (Cond.instanceMethod ⟨"java/lang/Object", "getClass", "()Ljava/lang/Class;"⟩).before a0 Z = true) (w6 : (Cond.native ⟨"java/lang/Object", "getClass", "()Ljava/lang/Class;"⟩).before a0 Z = true) (eT : T.heap = h) (E : Exa Z h a K1) (M : Mir Z K1 mr) (hls : Ls.size = maxL) (hf : 1 ≤ R.frames) (hW : (S.map fun v => v.category).sum ≤ W) (hlo : W + 14 ≤ R.locals) (hd : decode bytes pc = .ok (.invokevirtual idx, 3)) (hp : pc + 3 = pc')
    (K : ∀ T', Stand p l e R s m args below meth c T' locs cells slots → T'.heap = h → Go p e below Fin' T' (mkF m pc' Ls (.ref mr :: S))) : Go p e below Fin' T (mkF m pc Ls (.ref a :: S)) := by
  subst hp
  obtain ⟨T', X', e', st⟩ := Jvm.RoadKit.gcls X C.1 C.2.1 C.2.2.1 w1 w2 w3 w4 w5 w6 eT E M (g := mkF m pc Ls (.ref a :: S)) rfl (by show Ls.size = _; rw [C.2.2.2.2.1]; exact hls) rfl (hb C.2.2.2.1 hd) hf (W := W) (by show 2 * 0 + _ ≤ _; omega) hlo
  exact (K T' X' e').via st
theorem Go.ldcM (C : Cx p s m meth c Z own nm bytes maxL ret) (X : Stand p l e R s m args below meth c T locs cells slots) {idx : Nat} {K1 : String} {mr : Addr} (w : (Cond.classLink own idx K1).before a0 Z = true) (eT : T.heap = h) (M : Mir Z K1 mr) (hd : decode bytes pc = .ok (.ldc idx, 2)) (hp : pc + 2 = pc')
    (K : ∀ T', Stand p l e R s m args below meth c T' locs cells slots → T'.heap = h → Go p e below Fin' T' (mkF m pc' Ls (.ref mr :: S))) : Go p e below Fin' T (mkF m pc Ls S) := by
  subst hp
  obtain ⟨cc, kc, m1, m2, m3, -⟩ := M
  obtain ⟨k', q, ek⟩ := C.2.1.alike.2.2 _ _ m2
  have f1 : s.vm.findClass K1 = some cc := by rw [C.2.1.alike.findClass]; exact m1
  have f2 : k'.mirror = some mr := by rw [ek]; exact m3
  have hev : (Term.mirror K1).eval args s none [] s = some (.ref mr) := by simp [Term.eval, f1, q, f2]
  obtain ⟨vm', X', st⟩ := X.ldcMirror C.1 C.2.2.1 (mv C.2.1 w) hev (g := mkF m pc Ls S) rfl (hb C.2.2.2.1 hd)
  exact (K _ X' eT).via st
theorem NS.rootI {O K1 : String} {n : Nat} (w : (Cond.noSuperclass O).before a0 Z = true) (wk : (Cond.instantiable K1 n).before a0 Z = true) (hn : O ≠ K1) : NS Z O K1 := by
  obtain ⟨c, k, h1, h2, h3, -, -⟩ := Cond.noSuperclass_spec w
  obtain ⟨t, -, g1, -⟩ := Cond.instantiable_spec wk
  have ne := ids_ne h1 g1 hn
  refine ⟨c, t, h1, g1, fun fuel => ?_⟩
  cases fuel with
  | zero => rfl
  | succ f => simp [Vm.isSubclassAux, ne, h2, h3]
theorem NS.noI {K0 S0 K1 : String} {n : Nat} (w : (Cond.superclass K0 S0).before a0 Z = true) (wk : (Cond.instantiable K1 n).before a0 Z = true) (N : NS Z K0 K1) (hn : K0 ≠ K1) : ∃ c t, Z.vm.findClass K0 = some c ∧ Z.vm.findClass K1 = some t ∧ Z.vm.assignable c t = false := by
  obtain ⟨c, t, h0, g0, n3⟩ := N
  obtain ⟨p, k, kp, h1, h2, h3, h4, h5, -, h7⟩ := Cond.superclass_spec h0 w
  obtain ⟨t', k', g1, g2, g3, g4, -⟩ := Cond.instantiable_spec wk
  cases g0.symm.trans g1
  have ne := ids_ne h0 g0 hn
  have gi : k'.isInterface = false := by
    cases q : k'.isInterface with
    | false => rfl
    | true => simp [q] at g4
  refine ⟨c, t, h0, g0, ?_⟩
  show Z.vm.assignableAux (255 + 1) c t = false
  simp [Vm.assignableAux, ne, h2, g2, h5, g3, gi, Vm.isSubclass, n3]
theorem Go.instNo (C : Cx p s m meth c Z own nm bytes maxL ret) (X : Stand p l e R s m args below meth c T locs cells slots) {idx : Nat} {K1 K2 : String} {a : Addr} (w : (Cond.classLink own idx K1).before a0 Z = true) (eT : T.heap = h) (E : Exa Z h a K2) (F : ∃ c t, Z.vm.findClass K2 = some c ∧ Z.vm.findClass K1 = some t ∧ Z.vm.assignable c t = false) (hd : decode bytes pc = .ok (.instanceof idx, 3)) (hp : pc + 3 = pc')
    (K : ∀ T', Stand p l e R s m args below meth c T' locs cells slots → T'.heap = h → Go p e below Fin' T' (mkF m pc' Ls (.int 0 :: S))) : Go p e below Fin' T (mkF m pc Ls (.ref a :: S)) := by
  subst hp
  obtain ⟨T', X', e', st⟩ := Jvm.RoadKit.instNo X C.1 C.2.1 C.2.2.1 w eT E F (g := mkF m pc Ls (.ref a :: S)) rfl rfl (hb C.2.2.2.1 hd)
  exact (K T' X' e').via st
theorem Go.castNull (C : Cx p s m meth c Z own nm bytes maxL ret) (X : Stand p l e R s m args below meth c T locs cells slots) {idx : Nat}  (hd : decode bytes pc = .ok (.checkcast idx, 3)) (hp : pc + 3 = pc')
    (K : Go p e below Fin' T (mkF m pc' Ls (.null :: S))) : Go p e below Fin' T (mkF m pc Ls (.null :: S)) := by
  subst hp
  exact K.via (X.checkcastNull C.1 (g := mkF m pc Ls (.null :: S)) rfl rfl (hb C.2.2.2.1 hd))
theorem Go.instNull (C : Cx p s m meth c Z own nm bytes maxL ret) (X : Stand p l e R s m args below meth c T locs cells slots) {idx : Nat}  (hd : decode bytes pc = .ok (.instanceof idx, 3)) (hp : pc + 3 = pc')
    (K : Go p e below Fin' T (mkF m pc' Ls (.int 0 :: S))) : Go p e below Fin' T (mkF m pc Ls (.null :: S)) := by
  subst hp
  exact K.via (X.instanceofNull C.1 (g := mkF m pc Ls (.null :: S)) rfl rfl (hb C.2.2.2.1 hd))
theorem Go.stI (C : Cx p s m meth c Z own nm bytes maxL ret) (X : Stand p l e R s m args below meth c T locs cells slots) {a : Addr} {k : ClassId} {vs vs' : List Value} {j : Int32} {i : Nat} {x x' : Int32} (eT : T.heap = h) (F : AL Z h a k .int vs) (hj : ¬ j < 0) (hji : j.toNatClampNeg = i) (hi : i < vs.length) (hx : x = x') (hvs : vs.set i (.int x') = vs') (hd : decode bytes pc = .ok (.iastore, 1)) (hp : pc + 1 = pc')
    (K : ∀ T' h', Stand p l e R s m args below meth c T' (locs ++ [⟨a, i⟩]) cells slots → T'.heap = h' → Wr h h' a i (.int x') → AL Z h' a k .int vs' → Go p e below Fin' T' (mkF m pc' Ls S)) : Go p e below Fin' T (mkF m pc Ls (.int x :: .int j :: .ref a :: S)) := by
  subst hp
  subst hji hvs hx
  have F0 := F
  obtain ⟨cl, A, q1, q2⟩ := F
  obtain ⟨T', h', X', e', W', st⟩ := Jvm.RoadKit.stI X C.1 C.2.1 eT A (j := j) (fun q => q.elim hj fun y => by rw [q2] at y; simp at y; omega) (g := mkF m pc Ls (.int x :: .int j :: .ref a :: S)) rfl rfl (hb C.2.2.2.1 hd)
  exact (K T' h' X' e' W' (F0.set W')).via st
theorem Go.stC (C : Cx p s m meth c Z own nm bytes maxL ret) (X : Stand p l e R s m args below meth c T locs cells slots) {a : Addr} {k : ClassId} {vs vs' : List Value} {j : Int32} {i : Nat} {x x' : Int32} (eT : T.heap = h) (F : AL Z h a k .char vs) (hj : ¬ j < 0) (hji : j.toNatClampNeg = i) (hi : i < vs.length) (hx : (nar .char x) = x') (hvs : vs.set i (.int x') = vs') (hd : decode bytes pc = .ok (.castore, 1)) (hp : pc + 1 = pc')
    (K : ∀ T' h', Stand p l e R s m args below meth c T' (locs ++ [⟨a, i⟩]) cells slots → T'.heap = h' → Wr h h' a i (.int x') → AL Z h' a k .char vs' → Go p e below Fin' T' (mkF m pc' Ls S)) : Go p e below Fin' T (mkF m pc Ls (.int x :: .int j :: .ref a :: S)) := by
  subst hp
  subst hji hvs hx
  have F0 := F
  obtain ⟨cl, A, q1, q2⟩ := F
  obtain ⟨T', h', X', e', W', st⟩ := Jvm.RoadKit.stC X C.1 C.2.1 eT A (j := j) (fun q => q.elim hj fun y => by rw [q2] at y; simp at y; omega) (g := mkF m pc Ls (.int x :: .int j :: .ref a :: S)) rfl rfl (hb C.2.2.2.1 hd)
  exact (K T' h' X' e' W' (F0.set W')).via st
theorem Go.stS (C : Cx p s m meth c Z own nm bytes maxL ret) (X : Stand p l e R s m args below meth c T locs cells slots) {a : Addr} {k : ClassId} {vs vs' : List Value} {j : Int32} {i : Nat} {x x' : Int32} (eT : T.heap = h) (F : AL Z h a k .short vs) (hj : ¬ j < 0) (hji : j.toNatClampNeg = i) (hi : i < vs.length) (hx : (nar .short x) = x') (hvs : vs.set i (.int x') = vs') (hd : decode bytes pc = .ok (.sastore, 1)) (hp : pc + 1 = pc')
    (K : ∀ T' h', Stand p l e R s m args below meth c T' (locs ++ [⟨a, i⟩]) cells slots → T'.heap = h' → Wr h h' a i (.int x') → AL Z h' a k .short vs' → Go p e below Fin' T' (mkF m pc' Ls S)) : Go p e below Fin' T (mkF m pc Ls (.int x :: .int j :: .ref a :: S)) := by
  subst hp
  subst hji hvs hx
  have F0 := F
  obtain ⟨cl, A, q1, q2⟩ := F
  obtain ⟨T', h', X', e', W', st⟩ := Jvm.RoadKit.stS X C.1 C.2.1 eT A (j := j) (fun q => q.elim hj fun y => by rw [q2] at y; simp at y; omega) (g := mkF m pc Ls (.int x :: .int j :: .ref a :: S)) rfl rfl (hb C.2.2.2.1 hd)
  exact (K T' h' X' e' W' (F0.set W')).via st
theorem Go.stB (C : Cx p s m meth c Z own nm bytes maxL ret) (X : Stand p l e R s m args below meth c T locs cells slots) {a : Addr} {k : ClassId} {vs vs' : List Value} {j : Int32} {i : Nat} {x x' : Int32} (eT : T.heap = h) (F : AL Z h a k .byte vs) (hj : ¬ j < 0) (hji : j.toNatClampNeg = i) (hi : i < vs.length) (hx : (nar .byte x) = x') (hvs : vs.set i (.int x') = vs') (hd : decode bytes pc = .ok (.bastore, 1)) (hp : pc + 1 = pc')
    (K : ∀ T' h', Stand p l e R s m args below meth c T' (locs ++ [⟨a, i⟩]) cells slots → T'.heap = h' → Wr h h' a i (.int x') → AL Z h' a k .byte vs' → Go p e below Fin' T' (mkF m pc' Ls S)) : Go p e below Fin' T (mkF m pc Ls (.int x :: .int j :: .ref a :: S)) := by
  subst hp
  subst hji hvs hx
  have F0 := F
  obtain ⟨cl, A, q1, q2⟩ := F
  obtain ⟨T', h', X', e', W', st⟩ := Jvm.RoadKit.stB X C.1 C.2.1 eT A (j := j) (fun q => q.elim hj fun y => by rw [q2] at y; simp at y; omega) (g := mkF m pc Ls (.int x :: .int j :: .ref a :: S)) rfl rfl (hb C.2.2.2.1 hd)
  exact (K T' h' X' e' W' (F0.set W')).via st
theorem Go.stZ (C : Cx p s m meth c Z own nm bytes maxL ret) (X : Stand p l e R s m args below meth c T locs cells slots) {a : Addr} {k : ClassId} {vs vs' : List Value} {j : Int32} {i : Nat} {x x' : Int32} (eT : T.heap = h) (F : AL Z h a k .boolean vs) (hj : ¬ j < 0) (hji : j.toNatClampNeg = i) (hi : i < vs.length) (hx : (nar .boolean x) = x') (hvs : vs.set i (.int x') = vs') (hd : decode bytes pc = .ok (.bastore, 1)) (hp : pc + 1 = pc')
    (K : ∀ T' h', Stand p l e R s m args below meth c T' (locs ++ [⟨a, i⟩]) cells slots → T'.heap = h' → Wr h h' a i (.int x') → AL Z h' a k .boolean vs' → Go p e below Fin' T' (mkF m pc' Ls S)) : Go p e below Fin' T (mkF m pc Ls (.int x :: .int j :: .ref a :: S)) := by
  subst hp
  subst hji hvs hx
  have F0 := F
  obtain ⟨cl, A, q1, q2⟩ := F
  obtain ⟨T', h', X', e', W', st⟩ := Jvm.RoadKit.stZ X C.1 C.2.1 eT A (j := j) (fun q => q.elim hj fun y => by rw [q2] at y; simp at y; omega) (g := mkF m pc Ls (.int x :: .int j :: .ref a :: S)) rfl rfl (hb C.2.2.2.1 hd)
  exact (K T' h' X' e' W' (F0.set W')).via st
theorem Go.stJ (C : Cx p s m meth c Z own nm bytes maxL ret) (X : Stand p l e R s m args below meth c T locs cells slots) {a : Addr} {k : ClassId} {vs vs' : List Value} {j : Int32} {i : Nat} {x x' : Int64} (eT : T.heap = h) (F : AL Z h a k .long vs) (hj : ¬ j < 0) (hji : j.toNatClampNeg = i) (hi : i < vs.length) (hx : x = x') (hvs : vs.set i (.long x') = vs') (hd : decode bytes pc = .ok (.lastore, 1)) (hp : pc + 1 = pc')
    (K : ∀ T' h', Stand p l e R s m args below meth c T' (locs ++ [⟨a, i⟩]) cells slots → T'.heap = h' → Wr h h' a i (.long x') → AL Z h' a k .long vs' → Go p e below Fin' T' (mkF m pc' Ls S)) : Go p e below Fin' T (mkF m pc Ls (.long x :: .int j :: .ref a :: S)) := by
  subst hp
  subst hji hvs hx
  have F0 := F
  obtain ⟨cl, A, q1, q2⟩ := F
  obtain ⟨T', h', X', e', W', st⟩ := Jvm.RoadKit.stJ X C.1 C.2.1 eT A (j := j) (fun q => q.elim hj fun y => by rw [q2] at y; simp at y; omega) (g := mkF m pc Ls (.long x :: .int j :: .ref a :: S)) rfl rfl (hb C.2.2.2.1 hd)
  exact (K T' h' X' e' W' (F0.set W')).via st
theorem Go.stR (C : Cx p s m meth c Z own nm bytes maxL ret) (X : Stand p l e R s m args below meth c T locs cells slots) {a : Addr} {k : ClassId} {ty : FieldType} {vs vs' : List Value} {j : Int32} {i : Nat} {v : Value} (eT : T.heap = h) (F : AL Z h a k ty vs) (hj : ¬ j < 0) (hji : j.toNatClampNeg = i) (hi : i < vs.length) (hty : ty.isReference = true) (Fs : Sto Z h a v) (hvs : vs.set i v = vs') (hd : decode bytes pc = .ok (.aastore, 1)) (hp : pc + 1 = pc')
    (K : ∀ T' h', Stand p l e R s m args below meth c T' (locs ++ [⟨a, i⟩]) cells slots → T'.heap = h' → Wr h h' a i v → AL Z h' a k ty vs' → Go p e below Fin' T' (mkF m pc' Ls S)) : Go p e below Fin' T (mkF m pc Ls (v :: .int j :: .ref a :: S)) := by
  subst hp
  subst hji hvs
  have F0 := F
  obtain ⟨cl, A, q1, q2⟩ := F
  obtain ⟨T', h', X', e', W', st⟩ := Jvm.RoadKit.stR X C.1 C.2.1 eT A (j := j) (fun q => q.elim hj fun y => by rw [q2] at y; simp at y; omega) hty Fs (g := mkF m pc Ls (v :: .int j :: .ref a :: S)) rfl rfl (hb C.2.2.2.1 hd)
  exact (K T' h' X' e' W' (F0.set W')).via st
theorem AL.sto {a y : Addr} {k : ClassId} {ty : FieldType} {vs : List Value} {K1 : String} (F : AL Z h a k ty vs) (O : Ovr Z k K1) (I : Ins Z h y K1 true) : Sto Z h a (.ref y) := by
  obtain ⟨c, A, r, -⟩ := F; exact Sto.ofV A r O I
theorem Go.ldI (C : Cx p s m meth c Z own nm bytes maxL ret) (X : Stand p l e R s m args below meth c T locs cells slots) {a : Addr} {k : ClassId} {vs : List Value} {j : Int32} {i : Nat} {v : Value} (eT : T.heap = h) (F : AL Z h a k .int vs) (hj : ¬ j < 0) (hji : j.toNatClampNeg = i) (hv : vs[i]? = some v) (hd : decode bytes pc = .ok (.iaload, 1)) (hp : pc + 1 = pc')
    (K : Go p e below Fin' T (mkF m pc' Ls (v :: S))) : Go p e below Fin' T (mkF m pc Ls (.int j :: .ref a :: S)) := by
  subst hp
  subst hji
  obtain ⟨cl, A, q1, q2⟩ := F
  have hlt : j.toNatClampNeg < vs.length := (List.getElem?_eq_some_iff.mp hv).1
  exact K.via fun t k => X.iaload C.1 (j := j) (v := v) (by rw [eT]; exact A.1) (State.isArrayOf_alike C.2.1.alike A.2.1) A.2.2 (fun q => q.elim hj fun y => by rw [q2] at y; simp at y; omega) (by rw [q2]; simpa using hv) (g := mkF m pc Ls (.int j :: .ref a :: S)) rfl rfl (hb C.2.2.2.1 hd) t k
theorem Go.ldC (C : Cx p s m meth c Z own nm bytes maxL ret) (X : Stand p l e R s m args below meth c T locs cells slots) {a : Addr} {k : ClassId} {vs : List Value} {j : Int32} {i : Nat} {v : Value} (eT : T.heap = h) (F : AL Z h a k .char vs) (hj : ¬ j < 0) (hji : j.toNatClampNeg = i) (hv : vs[i]? = some v) (hd : decode bytes pc = .ok (.caload, 1)) (hp : pc + 1 = pc')
    (K : Go p e below Fin' T (mkF m pc' Ls (v :: S))) : Go p e below Fin' T (mkF m pc Ls (.int j :: .ref a :: S)) := by
  subst hp
  subst hji
  obtain ⟨cl, A, q1, q2⟩ := F
  have hlt : j.toNatClampNeg < vs.length := (List.getElem?_eq_some_iff.mp hv).1
  exact K.via fun t k => X.caload C.1 (j := j) (v := v) (by rw [eT]; exact A.1) (State.isArrayOf_alike C.2.1.alike A.2.1) A.2.2 (fun q => q.elim hj fun y => by rw [q2] at y; simp at y; omega) (by rw [q2]; simpa using hv) (g := mkF m pc Ls (.int j :: .ref a :: S)) rfl rfl (hb C.2.2.2.1 hd) t k
theorem Go.ldB (C : Cx p s m meth c Z own nm bytes maxL ret) (X : Stand p l e R s m args below meth c T locs cells slots) {a : Addr} {k : ClassId} {vs : List Value} {j : Int32} {i : Nat} {v : Value} (eT : T.heap = h) (F : AL Z h a k .byte vs) (hj : ¬ j < 0) (hji : j.toNatClampNeg = i) (hv : vs[i]? = some v) (hd : decode bytes pc = .ok (.baload, 1)) (hp : pc + 1 = pc')
    (K : Go p e below Fin' T (mkF m pc' Ls (v :: S))) : Go p e below Fin' T (mkF m pc Ls (.int j :: .ref a :: S)) := by
  subst hp
  subst hji
  obtain ⟨cl, A, q1, q2⟩ := F
  have hlt : j.toNatClampNeg < vs.length := (List.getElem?_eq_some_iff.mp hv).1
  exact K.via fun t k => X.baloadBytes C.1 (j := j) (v := v) (by rw [eT]; exact A.1) (State.isArrayOf_alike C.2.1.alike A.2.1) A.2.2 (fun q => q.elim hj fun y => by rw [q2] at y; simp at y; omega) (by rw [q2]; simpa using hv) (g := mkF m pc Ls (.int j :: .ref a :: S)) rfl rfl (hb C.2.2.2.1 hd) t k
theorem Go.ldZ (C : Cx p s m meth c Z own nm bytes maxL ret) (X : Stand p l e R s m args below meth c T locs cells slots) {a : Addr} {k : ClassId} {vs : List Value} {j : Int32} {i : Nat} {v : Value} (eT : T.heap = h) (F : AL Z h a k .boolean vs) (hj : ¬ j < 0) (hji : j.toNatClampNeg = i) (hv : vs[i]? = some v) (hd : decode bytes pc = .ok (.baload, 1)) (hp : pc + 1 = pc')
    (K : Go p e below Fin' T (mkF m pc' Ls (v :: S))) : Go p e below Fin' T (mkF m pc Ls (.int j :: .ref a :: S)) := by
  subst hp
  subst hji
  obtain ⟨cl, A, q1, q2⟩ := F
  have hlt : j.toNatClampNeg < vs.length := (List.getElem?_eq_some_iff.mp hv).1
  exact K.via fun t k => X.baloadBooleans C.1 (j := j) (v := v) (by rw [eT]; exact A.1) (State.isArrayOf_alike C.2.1.alike A.2.1) A.2.2 (fun q => q.elim hj fun y => by rw [q2] at y; simp at y; omega) (by rw [q2]; simpa using hv) (g := mkF m pc Ls (.int j :: .ref a :: S)) rfl rfl (hb C.2.2.2.1 hd) t k
theorem Go.ldJ (C : Cx p s m meth c Z own nm bytes maxL ret) (X : Stand p l e R s m args below meth c T locs cells slots) {a : Addr} {k : ClassId} {vs : List Value} {j : Int32} {i : Nat} {v : Value} (eT : T.heap = h) (F : AL Z h a k .long vs) (hj : ¬ j < 0) (hji : j.toNatClampNeg = i) (hv : vs[i]? = some v) (hd : decode bytes pc = .ok (.laload, 1)) (hp : pc + 1 = pc')
    (K : Go p e below Fin' T (mkF m pc' Ls (v :: S))) : Go p e below Fin' T (mkF m pc Ls (.int j :: .ref a :: S)) := by
  subst hp
  subst hji
  obtain ⟨cl, A, q1, q2⟩ := F
  have hlt : j.toNatClampNeg < vs.length := (List.getElem?_eq_some_iff.mp hv).1
  exact K.via fun t k => X.laload C.1 (j := j) (v := v) (by rw [eT]; exact A.1) (State.isArrayOf_alike C.2.1.alike A.2.1) A.2.2 (fun q => q.elim hj fun y => by rw [q2] at y; simp at y; omega) (by rw [q2]; simpa using hv) (g := mkF m pc Ls (.int j :: .ref a :: S)) rfl rfl (hb C.2.2.2.1 hd) t k
theorem Go.ldR (C : Cx p s m meth c Z own nm bytes maxL ret) (X : Stand p l e R s m args below meth c T locs cells slots) {a : Addr} {k : ClassId} {vs : List Value} {j : Int32} {i : Nat} {v : Value} {ty : FieldType} (eT : T.heap = h) (F : AL Z h a k ty vs) (hj : ¬ j < 0) (hji : j.toNatClampNeg = i) (hv : vs[i]? = some v) (hty : ty.isReference = true) (hd : decode bytes pc = .ok (.aaload, 1)) (hp : pc + 1 = pc')
    (K : Go p e below Fin' T (mkF m pc' Ls (v :: S))) : Go p e below Fin' T (mkF m pc Ls (.int j :: .ref a :: S)) := by
  subst hp
  subst hji
  obtain ⟨cl, A, q1, q2⟩ := F
  have hlt : j.toNatClampNeg < vs.length := (List.getElem?_eq_some_iff.mp hv).1
  exact K.via fun t k => X.aaload C.1 (j := j) (v := v) (by rw [eT]; exact A.1) (State.isArrayOf_alike C.2.1.alike A.2.1) hty A.2.2 (fun q => q.elim hj fun y => by rw [q2] at y; simp at y; omega) (by rw [q2]; simpa using hv) (g := mkF m pc Ls (.int j :: .ref a :: S)) rfl rfl (hb C.2.2.2.1 hd) t k
theorem Go.alen (C : Cx p s m meth c Z own nm bytes maxL ret) (X : Stand p l e R s m args below meth c T locs cells slots) {a : Addr} {k : ClassId} {ty : FieldType} {vs : List Value} {z : Int32} (eT : T.heap = h) (F : AL Z h a k ty vs) (hz : vs.length.toInt32 = z) (hd : decode bytes pc = .ok (.arraylength, 1)) (hp : pc + 1 = pc')
    (K : Go p e below Fin' T (mkF m pc' Ls (.int z :: S))) : Go p e below Fin' T (mkF m pc Ls (.ref a :: S)) := by
  subst hp
  subst hz
  obtain ⟨cl, A, q1, q2⟩ := F
  have q3 : cl.slots.size = vs.length := by rw [q2]; simp
  refine K.via fun t k => X.arraylength C.1 (by rw [eT]; exact A.1) (State.isArrayOf_alike C.2.1.alike A.2.1) (g := mkF m pc Ls (.ref a :: S)) rfl rfl (hb C.2.2.2.1 hd) t ?_
  rw [q3]; exact k
theorem Go.ldcR (C : Cx p s m meth c Z own nm bytes maxL ret) (X : Stand p l e R s m args below meth c T locs cells slots) {idx : Nat} {text : String} {a : Addr} (w : (Cond.stringRef own idx text).before a0 Z = true) (L : Lit Z own idx a) (hd : decode bytes pc = .ok (.ldc idx, 2)) (hp : pc + 2 = pc')
    (K : Go p e below Fin' T (mkF m pc' Ls (.ref a :: S))) : Go p e below Fin' T (mkF m pc Ls S) := by
  subst hp
  exact K.via (Jvm.RoadKit.ldcR X C.1 C.2.1 C.2.2.1 w L (g := mkF m pc Ls S) rfl (hb C.2.2.2.1 hd))
/-! calls -/
theorem Go.initO (C : Cx p s m meth c Z own nm bytes maxL ret) (X : Stand p l e R s m args below meth c T locs cells slots) {idx : Nat} {a : Addr} (w1 : (Cond.methodLink own idx Lib.objectInit).before a0 Z = true) (w2 : (Cond.instanceMethod Lib.objectInit).before a0 Z = true) (w3 : (Cond.code Lib.objectInit ⟨#[0xb1]⟩ 1 none).before a0 Z = true) (eT : T.heap = h) (hls : Ls.size = maxL) (hf : 1 ≤ R.frames) {W : Nat} (hW : (S.map fun v => v.category).sum ≤ W) (hl : W + 12 ≤ R.locals) (hd : decode bytes pc = .ok (.invokespecial idx, 3)) (hp : pc + 3 = pc')
    (K : ∀ T', Stand p l e R s m args below meth c T' locs cells slots → T'.heap = h → Go p e below Fin' T' (mkF m pc' Ls S)) : Go p e below Fin' T (mkF m pc Ls (.ref a :: S)) := by
  subst hp
  obtain ⟨T', X', e', st⟩ := Jvm.RoadKit.initO X C.1 C.2.1 C.2.2.1 w1 w2 w3 eT (g := mkF m pc Ls (.ref a :: S)) rfl (by rw [C.2.2.2.2.1]; exact hls) rfl (hb C.2.2.2.1 hd) hf (W := W) (by show 2 * 0 + _ ≤ _; omega) hl
  exact (K T' X' e').via st
theorem Go.callS (C : Cx p s m meth c Z own nm bytes maxL ret) (X : Stand p l e R s m args below meth c T locs cells slots) {idx : Nat} {y : MethodName} {bytes' : ByteArray} {maxL' : Nat} {ret' : Option FieldType} {rm : Room} {as' : Array Value} {Q' : Option Value → Heap → List Loc → Prop} {argsL rest : List Value} {ps : List FieldType} {r : Option FieldType} {W : Nat} (w1 : (Cond.methodLink own idx y).before a0 Z = true) (w2 : (Cond.static y).before a0 Z = true) (hy : y.cls ≠ "java/lang/invoke/MethodHandle" ∧ y.cls ≠ "java/lang/invoke/VarHandle") (M : Met1 l Z y bytes' maxL' ret' rm as' h Q') (wc : (Cond.code y bytes' maxL' ret').before a0 Z = true) (wz : (Cond.initialized y.cls).before a0 Z = true) (eT : T.heap = h) (hS : S = argsL.reverse ++ rest) (has : (argsL).toArray = as') (pd : parseMethodDescriptor y.desc = some ⟨ps, r⟩) (hlen : argsL.length = ps.length) (hW : (rest.map fun v => v.category).sum ≤ W) (hls : Ls.size = maxL) (hf : rm.frames + 1 ≤ R.frames) (hlo : W + (maxL' + 11) + rm.locals ≤ R.locals) (hc : cells + rm.cells ≤ R.cells) (hs : slots + rm.slots ≤ R.slots) (hd : decode bytes pc = .ok (.invokestatic idx, 3)) (hp : pc + 3 = pc')
    (K : ∀ T' v L, Stand p l e R s m args below meth c T' (locs ++ L) (cells + rm.cells) (slots + rm.slots) → Q' v T'.heap L → Go p e below Fin' T' (mkF m pc' Ls (v.toList ++ rest))) : Go p e below Fin' T (mkF m pc Ls S) := by
  subst hp
  subst hS has
  obtain ⟨v, _, ⟨T', L', k', n'⟩, -, X', ⟨L, hQ, l', y', z'⟩, st⟩ := Jvm.LawKit.callS X C.1 (y := y) C.2.2.1 (mvT C.2.1 w1) (mvT C.2.1 w2) (mvT C.2.1 wz) (mvT C.2.1 wc) hy (backOf (W := W) (M []) C.2.1 wc wz hf hlo) (g := mkF m pc Ls (argsL.reverse ++ rest)) rfl (by show Ls.size = _; rw [C.2.2.2.2.1]; exact hls) (argsL := argsL) (rest := rest) (lenOf pd hlen) rfl (by show 2 * 0 + _ ≤ _; omega) (hb C.2.2.2.1 hd) (fun _ _ => ⟨rfl, eT, hc, hs⟩)
  dsimp only [Pt.U, Pt.locs, Pt.cells, Pt.slots] at X' l' y' z' st hQ
  subst l' y' z'
  exact (K T' v L X' hQ).via st
theorem Go.callI (C : Cx p s m meth c Z own nm bytes maxL ret) (X : Stand p l e R s m args below meth c T locs cells slots) {idx : Nat} {y : MethodName} {a : Addr} {bytes' : ByteArray} {maxL' : Nat} {ret' : Option FieldType} {rm : Room} {as' : Array Value} {Q' : Option Value → Heap → List Loc → Prop} {argsL rest : List Value} {ps : List FieldType} {r : Option FieldType} {W : Nat} (hini : y.name = "<init>") (w1 : (Cond.methodLink own idx y).before a0 Z = true) (w2 : (Cond.instanceMethod y).before a0 Z = true) (hy : y.cls ≠ "java/lang/invoke/MethodHandle" ∧ y.cls ≠ "java/lang/invoke/VarHandle") (M : Met1 l Z y bytes' maxL' ret' rm as' h Q') (wc : (Cond.code y bytes' maxL' ret').before a0 Z = true) (wz : (Cond.initialized y.cls).before a0 Z = true) (eT : T.heap = h) (hS : S = argsL.reverse ++ .ref a :: rest) (has : (.ref a :: argsL).toArray = as') (pd : parseMethodDescriptor y.desc = some ⟨ps, r⟩) (hlen : argsL.length = ps.length) (hW : (rest.map fun v => v.category).sum ≤ W) (hls : Ls.size = maxL) (hf : rm.frames + 1 ≤ R.frames) (hlo : W + (maxL' + 11) + rm.locals ≤ R.locals) (hc : cells + rm.cells ≤ R.cells) (hs : slots + rm.slots ≤ R.slots) (hr0 : ret' = none) (hd : decode bytes pc = .ok (.invokespecial idx, 3)) (hp : pc + 3 = pc')
    (K : ∀ T' v L, Stand p l e R s m args below meth c T' (locs ++ L) (cells + rm.cells) (slots + rm.slots) → Q' v T'.heap L → Go p e below Fin' T' (mkF m pc' Ls (v.toList ++ rest))) : Go p e below Fin' T (mkF m pc Ls S) := by
  subst hp
  subst hr0
  subst hS has
  obtain ⟨v, _, ⟨T', L', k', n'⟩, -, X', ⟨L, hQ, l', y', z'⟩, st⟩ := X.specialBack C.1 (y := y) hini C.2.2.1 (mvT C.2.1 w1) (mvT C.2.1 w2) (mvT C.2.1 wc) hy (backOf (W := W) (M []) C.2.1 wc wz hf hlo) (g := mkF m pc Ls (argsL.reverse ++ .ref a :: rest)) rfl (by show Ls.size = _; rw [C.2.2.2.2.1]; exact hls) (Steps.refl _) (a := a) (argsL := argsL) (rest := rest) (lenOf pd hlen) rfl (by show 2 * 0 + _ ≤ _; omega) (hb C.2.2.2.1 hd) (fun _ _ => ⟨rfl, eT, hc, hs⟩)
  dsimp only [Pt.U, Pt.locs, Pt.cells, Pt.slots] at X' l' y' z' st hQ
  subst l' y' z'
  exact (K T' v L X' hQ).via fun t k => st.trans k
theorem Go.callIN (C : Cx p s m meth c Z own nm bytes maxL ret) (X : Stand p l e R s m args below meth c T locs cells slots) {idx : Nat} {host : String} {y : MethodName} {a : Addr} {bytes' : ByteArray} {maxL' : Nat} {ret' : Option FieldType} {rm : Room} {as' : Array Value} {Q' : Option Value → Heap → List Loc → Prop} {argsL rest : List Value} {ps : List FieldType} {r : Option FieldType} {W : Nat} (hini : y.name = "<init>") (w1 : (Cond.methodLinkNest own idx y host).before a0 Z = true) (w2 : (Cond.instanceMethod y).before a0 Z = true) (hy : y.cls ≠ "java/lang/invoke/MethodHandle" ∧ y.cls ≠ "java/lang/invoke/VarHandle") (M : Met1 l Z y bytes' maxL' ret' rm as' h Q') (wc : (Cond.code y bytes' maxL' ret').before a0 Z = true) (wz : (Cond.initialized y.cls).before a0 Z = true) (eT : T.heap = h) (hS : S = argsL.reverse ++ .ref a :: rest) (has : (.ref a :: argsL).toArray = as') (pd : parseMethodDescriptor y.desc = some ⟨ps, r⟩) (hlen : argsL.length = ps.length) (hW : (rest.map fun v => v.category).sum ≤ W) (hls : Ls.size = maxL) (hf : rm.frames + 1 ≤ R.frames) (hlo : W + (maxL' + 11) + rm.locals ≤ R.locals) (hc : cells + rm.cells ≤ R.cells) (hs : slots + rm.slots ≤ R.slots) (hr0 : ret' = none) (hd : decode bytes pc = .ok (.invokespecial idx, 3)) (hp : pc + 3 = pc')
    (K : ∀ T' v L, Stand p l e R s m args below meth c T' (locs ++ L) (cells + rm.cells) (slots + rm.slots) → Q' v T'.heap L → Go p e below Fin' T' (mkF m pc' Ls (v.toList ++ rest))) : Go p e below Fin' T (mkF m pc Ls S) := by
  subst hp
  subst hr0
  have w1' : (Cond.methodLinkNest own idx y host).before args s = true := (Cond.methodLinkNest_wide C.2.1 w1 :)
  subst hS has
  obtain ⟨v, _, ⟨T', L', k', n'⟩, -, X', ⟨L, hQ, l', y', z'⟩, st⟩ := X.specialBackNest C.1 (y := y) hini C.2.2.1 w1' (mvT C.2.1 w2) (mvT C.2.1 wc) hy (backOf (W := W) (M []) C.2.1 wc wz hf hlo) (g := mkF m pc Ls (argsL.reverse ++ .ref a :: rest)) rfl (by show Ls.size = _; rw [C.2.2.2.2.1]; exact hls) (Steps.refl _) (a := a) (argsL := argsL) (rest := rest) (lenOf pd hlen) rfl (by show 2 * 0 + _ ≤ _; omega) (hb C.2.2.2.1 hd) (fun _ _ => ⟨rfl, eT, hc, hs⟩)
  dsimp only [Pt.U, Pt.locs, Pt.cells, Pt.slots] at X' l' y' z' st hQ
  subst l' y' z'
  exact (K T' v L X' hQ).via fun t k => st.trans k
theorem Go.callP (C : Cx p s m meth c Z own nm bytes maxL ret) (X : Stand p l e R s m args below meth c T locs cells slots) {idx : Nat} {y : MethodName} {a : Addr} {K1 : String} {bytes' : ByteArray} {maxL' : Nat} {ret' : Option FieldType} {rm : Room} {as' : Array Value} {Q' : Option Value → Heap → List Loc → Prop} {argsL rest : List Value} {ps : List FieldType} {r : Option FieldType} {W : Nat} (w1 : (Cond.methodLink own idx y).before a0 Z = true) (w2 : (Cond.instanceMethod y).before a0 Z = true) (w3 : (Cond.selects y.cls y y).before a0 Z = true) (w4 : (Cond.privateMethod y).before a0 Z = true) (E : Exa Z h a K1) (hy : y.cls ≠ "java/lang/invoke/MethodHandle" ∧ y.cls ≠ "java/lang/invoke/VarHandle") (M : Met1 l Z y bytes' maxL' ret' rm as' h Q') (wc : (Cond.code y bytes' maxL' ret').before a0 Z = true) (wz : (Cond.initialized y.cls).before a0 Z = true) (eT : T.heap = h) (hS : S = argsL.reverse ++ .ref a :: rest) (has : (.ref a :: argsL).toArray = as') (pd : parseMethodDescriptor y.desc = some ⟨ps, r⟩) (hlen : argsL.length = ps.length) (hW : (rest.map fun v => v.category).sum ≤ W) (hls : Ls.size = maxL) (hf : rm.frames + 1 ≤ R.frames) (hlo : W + (maxL' + 11) + rm.locals ≤ R.locals) (hc : cells + rm.cells ≤ R.cells) (hs : slots + rm.slots ≤ R.slots) (hd : decode bytes pc = .ok (.invokevirtual idx, 3)) (hp : pc + 3 = pc')
    (K : ∀ T' v L, Stand p l e R s m args below meth c T' (locs ++ L) (cells + rm.cells) (slots + rm.slots) → Q' v T'.heap L → Go p e below Fin' T' (mkF m pc' Ls (v.toList ++ rest))) : Go p e below Fin' T (mkF m pc Ls S) := by
  subst hp
  obtain ⟨cq, q1, q2⟩ := E.cell
  subst hS has
  obtain ⟨v, _, ⟨T', L', k', n'⟩, -, X', ⟨L, hQ, l', y', z'⟩, st⟩ := X.privateBack C.1 (y := y) C.2.2.1 (mvT C.2.1 w1) (mvT C.2.1 w2) (mvT C.2.1 w3) (Cond.privateMethod_at (mvP C.2.1 w4 (args := #[]))) (mvT C.2.1 wc) hy (backOf (W := W) (M []) C.2.1 wc wz hf hlo) (g := mkF m pc Ls (argsL.reverse ++ .ref a :: rest)) rfl (by show Ls.size = _; rw [C.2.2.2.2.1]; exact hls) (Steps.refl _) (a := a) (by rw [eT]; exact q1) q2 (argsL := argsL) (rest := rest) (lenOf pd hlen) rfl (by show 2 * 0 + _ ≤ _; omega) (hb C.2.2.2.1 hd) (fun _ _ => ⟨rfl, eT, hc, hs⟩)
  dsimp only [Pt.U, Pt.locs, Pt.cells, Pt.slots] at X' l' y' z' st hQ
  subst l' y' z'
  exact (K T' v L X' hQ).via fun t k => st.trans k
theorem Go.callV (C : Cx p s m meth c Z own nm bytes maxL ret) (X : Stand p l e R s m args below meth c T locs cells slots) {idx : Nat} {y z : MethodName} {a : Addr} {K1 : String} {bytes' : ByteArray} {maxL' : Nat} {ret' : Option FieldType} {rm : Room} {as' : Array Value} {Q' : Option Value → Heap → List Loc → Prop} {argsL rest : List Value} {ps : List FieldType} {r : Option FieldType} {W : Nat} (w1 : (Cond.methodLink own idx y).before a0 Z = true) (w2 : (Cond.declares y).before a0 Z = true) (hnf : NotFace s y) (w3 : (Cond.selects K1 y z).before a0 Z = true) (w4 : (Cond.instanceMethod z).before a0 Z = true) (E : Exa Z h a K1) (hy : y.cls ≠ "java/lang/invoke/MethodHandle" ∧ y.cls ≠ "java/lang/invoke/VarHandle") (M : Met1 l Z z bytes' maxL' ret' rm as' h Q') (wc : (Cond.code z bytes' maxL' ret').before a0 Z = true) (wz : (Cond.initialized z.cls).before a0 Z = true) (eT : T.heap = h) (hS : S = argsL.reverse ++ .ref a :: rest) (has : (.ref a :: argsL).toArray = as') (pd : parseMethodDescriptor y.desc = some ⟨ps, r⟩) (hlen : argsL.length = ps.length) (hW : (rest.map fun v => v.category).sum ≤ W) (hls : Ls.size = maxL) (hf : rm.frames + 1 ≤ R.frames) (hlo : W + (maxL' + 11) + rm.locals ≤ R.locals) (hc : cells + rm.cells ≤ R.cells) (hs : slots + rm.slots ≤ R.slots) (hd : decode bytes pc = .ok (.invokevirtual idx, 3)) (hp : pc + 3 = pc')
    (K : ∀ T' v L, Stand p l e R s m args below meth c T' (locs ++ L) (cells + rm.cells) (slots + rm.slots) → Q' v T'.heap L → Go p e below Fin' T' (mkF m pc' Ls (v.toList ++ rest))) : Go p e below Fin' T (mkF m pc Ls S) := by
  subst hp
  obtain ⟨cq, kq, qa, qb, qc⟩ := isOf C.2.1 eT E
  subst hS has
  obtain ⟨v, _, ⟨T', L', k', n'⟩, -, X', ⟨L, hQ, l', y', z'⟩, st⟩ := X.virtualBack C.1 (y := y) (z := z) C.2.2.1 (mvT C.2.1 w1) (mvT C.2.1 w2) hnf (mvT C.2.1 w3) (mvT C.2.1 w4) hy (backOf (W := W) (M []) C.2.1 wc wz hf hlo) qa qc (g := mkF m pc Ls (argsL.reverse ++ .ref a :: rest)) rfl (by show Ls.size = _; rw [C.2.2.2.2.1]; exact hls) (Steps.refl _) (argsL := argsL) (rest := rest) (lenOf pd hlen) rfl (by show 2 * 0 + _ ≤ _; omega) (hb C.2.2.2.1 hd) (fun _ _ => ⟨rfl, eT, hc, hs⟩)
  dsimp only [Pt.U, Pt.locs, Pt.cells, Pt.slots] at X' l' y' z' st hQ
  subst l' y' z'
  exact (K T' v L X' hQ).via fun t k => st.trans k
theorem Go.callF (C : Cx p s m meth c Z own nm bytes maxL ret) (X : Stand p l e R s m args below meth c T locs cells slots) {idx count : Nat} {y z : MethodName} {a : Addr} {K1 : String} {bytes' : ByteArray} {maxL' : Nat} {ret' : Option FieldType} {rm : Room} {as' : Array Value} {Q' : Option Value → Heap → List Loc → Prop} {argsL rest : List Value} {ps : List FieldType} {r : Option FieldType} {W : Nat} (w1 : (Cond.methodLink own idx y).before a0 Z = true) (w2 : (Cond.declares y).before a0 Z = true) (w3 : (Cond.interfaceMethod y.cls y.cls y.name y.desc).before a0 Z = true) (w4 : (Cond.selects K1 y z).before a0 Z = true) (w5 : (Cond.instanceMethod z).before a0 Z = true) (w6 : (Cond.publicMethod z).before a0 Z = true) (w7 : (Cond.unhidden K1 y.name y.desc).before a0 Z = true) (w8 : (Cond.castable K1 y.cls).before a0 Z = true) (hfa : ((Cond.interfaceMethod y.cls y.cls y.name y.desc).onTables && (Cond.interfaceMethod y.cls y.cls y.name y.desc).keepsFace) = true) (E : Exa Z h a K1) (hy : y.cls ≠ "java/lang/invoke/MethodHandle" ∧ y.cls ≠ "java/lang/invoke/VarHandle") (M : Met1 l Z z bytes' maxL' ret' rm as' h Q') (wc : (Cond.code z bytes' maxL' ret').before a0 Z = true) (wz : (Cond.initialized z.cls).before a0 Z = true) (eT : T.heap = h) (hS : S = argsL.reverse ++ .ref a :: rest) (has : (.ref a :: argsL).toArray = as') (pd : parseMethodDescriptor y.desc = some ⟨ps, r⟩) (hlen : argsL.length = ps.length) (hW : (rest.map fun v => v.category).sum ≤ W) (hls : Ls.size = maxL) (hf : rm.frames + 1 ≤ R.frames) (hlo : W + (maxL' + 11) + rm.locals ≤ R.locals) (hc : cells + rm.cells ≤ R.cells) (hs : slots + rm.slots ≤ R.slots) (hd : decode bytes pc = .ok (.invokeinterface idx count, 5)) (hp : pc + 5 = pc')
    (K : ∀ T' v L, Stand p l e R s m args below meth c T' (locs ++ L) (cells + rm.cells) (slots + rm.slots) → Q' v T'.heap L → Go p e below Fin' T' (mkF m pc' Ls (v.toList ++ rest))) : Go p e below Fin' T (mkF m pc Ls S) := by
  subst hp
  obtain ⟨cq, kq, qa, qb, qc⟩ := isOf C.2.1 eT E
  subst hS has
  obtain ⟨v, _, ⟨T', L', k', n'⟩, -, X', ⟨L, hQ, l', y', z'⟩, st⟩ := X.interfaceBack C.1 (xi := y) (y := z) C.2.2.1 (mvT C.2.1 w1) (mvT C.2.1 w2) (mvT C.2.1 w3 hfa) (mvT C.2.1 w4) (mvT C.2.1 w5) (mvT C.2.1 w6) (mvT C.2.1 w7) (mvT C.2.1 w8) hy (backOf (W := W) (M []) C.2.1 wc wz hf hlo) qa qb qc (g := mkF m pc Ls (argsL.reverse ++ .ref a :: rest)) rfl (by show Ls.size = _; rw [C.2.2.2.2.1]; exact hls) (Steps.refl _) (argsL := argsL) (rest := rest) (lenOf pd hlen) rfl (by show 2 * 0 + _ ≤ _; omega) (hb C.2.2.2.1 hd) (fun _ _ => ⟨rfl, eT, hc, hs⟩)
  dsimp only [Pt.U, Pt.locs, Pt.cells, Pt.slots] at X' l' y' z' st hQ
  subst l' y' z'
  exact (K T' v L X' hQ).via fun t k => st.trans k
theorem notFace_at {y : MethodName} {K1 : String} (hZ : Z.Warmed39 s.vm) (w : (Cond.selects K1 y y).before a0 Z = true) : NotFace s y := notFace_of_selects (args := #[]) (mvT hZ w)
end Own
end Jvm.RoadKit

namespace Jvm.Pilot.@@N@@
open Jvm Jvm.ClassFile Sem Op Lib Jvm.Free Jvm.Stand Jvm.LawKit Jvm.RoadKit Bundle Jvm.Pilot.@@N@@.Jvm.D
theorem tw {a0 : Array Value} {Z : State} (hw : ∀ d ∈ tables_1, d.before a0 Z = true) (i : Nat) {d : Cond} (h : tables_1[i]? = some d) : d.before a0 Z = true := hw d (List.mem_of_getElem? h)
theorem n32_int {n : Nat} (h : n < 2 ^ 31) : n.toInt32.toInt = n := len_toInt h
theorem n32_nat {n : Nat} (h : n < 2 ^ 31) : n.toInt32.toNatClampNeg = n := by simp only [Int32.toNatClampNeg, len_toInt h]; omega
theorem n32_neg {n : Nat} (h : n < 2 ^ 31) : ¬ n.toInt32 < 0 := by simp only [Int32.lt_iff_toInt_lt, len_toInt h, Int32.reduceToInt]; omega
theorem n32_lt {n k : Nat} (hn : n < 2 ^ 31) (hk : k < 2 ^ 31) : n.toInt32 < k.toInt32 ↔ n < k := by rw [Int32.lt_iff_toInt_lt, len_toInt hn, len_toInt hk]; omega
theorem n32_succ (n : Nat) : n.toInt32 + (1 : Int32) = (n + 1).toInt32 := (Int32.ofNat_add n 1).symm
theorem n32_eq {n k : Nat} (hn : n < 2 ^ 31) (hk : k < 2 ^ 31) : n.toInt32 = k.toInt32 ↔ n = k := by rw [← Int32.toInt_inj, len_toInt hn, len_toInt hk]; omega
theorem nar_byte8 (x : Int32) : nar .byte x.toInt8.toInt32 = x.toInt8.toInt32 := by simp [nar]
def by8 (cs : List Int32) : List Value := cs.map fun c => Value.int c.toInt8.toInt32
def ch16 (cs : List Int32) : List Value := cs.map Value.int
theorem by8_len (cs : List Int32) : (by8 cs).length = cs.length := by simp [by8]
theorem ch16_len (cs : List Int32) : (ch16 cs).length = cs.length := by simp [ch16]

theorem own_255 (y : Int32) : 0 ≤ (y &&& (255 : Int32)).toInt ∧ (y &&& (255 : Int32)).toInt ≤ 255 := by
  have h := c_and y (255 : Int32) (by decide)
  simpa using h
theorem own_lt255 {y : Int32} (h : 0 ≤ y.toInt ∧ y.toInt ≤ 255) : ¬ (255 : Int32) < y := by
  rw [Int32.lt_iff_toInt_lt]; simp only [Int32.reduceToInt]; omega
theorem own_c255 (y : Int32) : 0 ≤ ((y &&& (255 : Int32)).toUInt32.toUInt16.toUInt32.toInt32).toInt ∧ ((y &&& (255 : Int32)).toUInt32.toUInt16.toUInt32.toInt32).toInt ≤ 255 := by
  rw [i2c_mask]; exact own_255 y
theorem own_c8 (x : Int32) : (x &&& (7 : Int32)) = (0 : Int32) ∨ (x &&& (7 : Int32)) = (1 : Int32) ∨ (x &&& (7 : Int32)) = (2 : Int32) ∨ (x &&& (7 : Int32)) = (3 : Int32) ∨ (x &&& (7 : Int32)) = (4 : Int32) ∨ (x &&& (7 : Int32)) = (5 : Int32) ∨ (x &&& (7 : Int32)) = (6 : Int32) ∨ (x &&& (7 : Int32)) = (7 : Int32) := by
  have h := c_mask x (7 : Int32) 3 (by decide) (by decide)
  simp only [← Int32.toInt_inj, Int32.reduceToInt]; omega
theorem pf_2 : plainFor (⟨"java/lang/StringLatin1", "canEncode", "(C)Z"⟩ : MethodName) = true := plainFor_of_name (by first | (simp [plainName, overriddenIn]; done) | decide +kernel)
theorem d2_0 : decode jdk_43_method_3_code 0 = .ok (.iload_n 0, 1) := by decide +kernel
theorem d2_1 : decode jdk_43_method_3_code 1 = .ok (.sipush 255, 3) := by decide +kernel
theorem d2_4 : decode jdk_43_method_3_code 4 = .ok (.if_icmp .gt 7, 3) := by decide +kernel
theorem d2_7 : decode jdk_43_method_3_code 7 = .ok (.iconst 1, 1) := by decide +kernel
theorem d2_8 : decode jdk_43_method_3_code 8 = .ok (.goto 4, 3) := by decide +kernel
theorem d2_12 : decode jdk_43_method_3_code 12 = .ok (.ireturn, 1) := by decide +kernel
def Q_ce (Z : State) (x : Int32) (h0 : Heap) (rv : Option Value) (h : Heap) (L : List Loc) : Prop := rv = some (.int (1 : Int32)) ∧ L = [] ∧ h = h0
set_option maxRecDepth 65536 in
set_option maxHeartbeats 40000000 in
theorem rm_ce (l : Launch) (Z : State) (a0 : Array Value) (hw : ∀ d ∈ tables_1, d.before a0 Z = true) (x : Int32) (h0 : Heap) (O0 : Ext Z.heap h0) (hx : 0 ≤ x.toInt ∧ x.toInt ≤ 255) :
    Met1 l Z (⟨"java/lang/StringLatin1", "canEncode", "(C)Z"⟩ : MethodName) jdk_43_method_3_code 1 (some .boolean) ({ frames := 0, cells := 0, slots := 0, locals := 0 } : Room) #[(.int x)] h0 (Q_ce Z x h0) := by
  refine Met1.of_body (Ls := #[.val (.int x)]) pf_2 (fun m => by first | (simp [entryFrame, mkF, argsToLocals, Value.category]; done) | rfl) ?_
  intro p e s m below meth c T0 C X0 e0
  have N0 : Fr Z.heap.size [] := Fr.nil _
  refine Go.iloadN (pc' := 1) C X0 d2_0 rfl rfl ?_
  refine Go.sipush (z := (255 : Int32)) (pc' := 4) C X0 d2_1 rfl rfl ?_
  refine Go.icmpNo (pc' := 7) C X0 d2_4 (flt (x := (255 : Int32)) (y := x) (own_lt255 hx)).2.2.1 rfl ?_
  refine Go.iconst (z := (1 : Int32)) (pc' := 8) C X0 d2_7 rfl rfl ?_
  refine Go.goto (pc' := 12) C X0 d2_8 (by decide) (by decide) ?_
  exact Go.retN C X0 rfl d2_12 (by simp) (by rw [e0]; exact ⟨rfl, rfl, rfl⟩) (by decide) (by decide)
theorem pf_3 : plainFor (⟨"java/lang/StringLatin1", "toBytes", "(C)[B"⟩ : MethodName) = true := plainFor_of_name (by first | (simp [plainName, overriddenIn]; done) | decide +kernel)
theorem d3_0 : decode jdk_43_method_46_code 0 = .ok (.iconst 1, 1) := by decide +kernel
theorem d3_1 : decode jdk_43_method_46_code 1 = .ok (.newarray .byte, 2) := by decide +kernel
theorem d3_3 : decode jdk_43_method_46_code 3 = .ok (.dup, 1) := by decide +kernel
theorem d3_4 : decode jdk_43_method_46_code 4 = .ok (.iconst 0, 1) := by decide +kernel
theorem d3_5 : decode jdk_43_method_46_code 5 = .ok (.iload_n 0, 1) := by decide +kernel
theorem d3_6 : decode jdk_43_method_46_code 6 = .ok (.i2b, 1) := by decide +kernel
theorem d3_7 : decode jdk_43_method_46_code 7 = .ok (.bastore, 1) := by decide +kernel
theorem d3_8 : decode jdk_43_method_46_code 8 = .ok (.areturn, 1) := by decide +kernel
def Q_tb (Z : State) (x : Int32) (h0 : Heap) (rv : Option Value) (h : Heap) (L : List Loc) : Prop := ∃ b : Addr, ∃ kb : ClassId, rv = some (.ref b) ∧ Fr Z.heap.size L ∧ Keep h0 h [] ∧ h0.size ≤ b ∧ AL Z h b kb .byte [(.int (nar .byte x.toInt8.toInt32))]
set_option maxRecDepth 65536 in
set_option maxHeartbeats 40000000 in
theorem rm_tb (l : Launch) (Z : State) (a0 : Array Value) (hw : ∀ d ∈ tables_1, d.before a0 Z = true) (x : Int32) (h0 : Heap) (O0 : Ext Z.heap h0) :
    Met1 l Z (⟨"java/lang/StringLatin1", "toBytes", "(C)[B"⟩ : MethodName) jdk_43_method_46_code 1 (some (.array .byte)) ({ frames := 0, cells := 1, slots := 1, locals := 0 } : Room) #[(.int x)] h0 (Q_tb Z x h0) := by
  refine Met1.of_body (Ls := #[.val (.int x)]) pf_3 (fun m => by first | (simp [entryFrame, mkF, argsToLocals, Value.category]; done) | rfl) ?_
  intro p e s m below meth c T0 C X0 e0
  have N0 : Fr Z.heap.size [] := Fr.nil _
  refine Go.iconst (z := (1 : Int32)) (pc' := 1) C X0 d3_0 rfl rfl ?_
  refine Go.newP (aty := .byte) (cap := 1) (vs := [(.int (0 : Int32))]) (ad := "[B") (pc' := 3) C X0 (by decide) (tw hw 14 rfl) e0 (by decide) (by decide) (by decide) (by decide) (by decide) rfl d3_1 rfl ?_
  intro T101 h101 b101 k101 X101 e101 g101 E101 A101 Ea101
  have n_b101 : Z.heap.size ≤ b101 := Nat.le_trans O0.1 (Nat.le_of_eq g101.symm)
  have z_b101 : h0.size ≤ b101 := Nat.le_trans (Nat.le_refl _) (Nat.le_of_eq g101.symm)
  have A101 : AL Z h101 b101 k101 .byte [(.int (0 : Int32))] := A101
  refine Go.dup (pc' := 4) C X101 d3_3 rfl rfl ?_
  refine Go.iconst (z := (0 : Int32)) (pc' := 5) C X101 d3_4 rfl rfl ?_
  refine Go.iloadN (pc' := 6) C X101 d3_5 rfl rfl ?_
  refine Go.i2b (pc' := 7) C X101 d3_6 rfl ?_
  refine Go.stB (i := 0) (x' := (nar .byte (x.toInt8.toInt32))) (vs' := [(.int (nar .byte (x.toInt8.toInt32)))]) (pc' := 8) C X101 e101 A101 (by decide) (by decide) (by simp) rfl rfl d3_7 rfl ?_
  intro T102 h102 X102 e102 W102 A102
  have N102 := Fr.snoc X102 N0 n_b101
  have K103 : Keep h0 h102 [] := (((Keep.refl h0 []).ext E101).wr W102 (Or.inr z_b101))
  exact Go.retA C X102 rfl d3_8 rfl rfl rfl (by rw [e102]; exact ⟨b101, k101, rfl, N102, K103, z_b101, A102⟩) (by decide) (by decide)
theorem pf_4 : plainFor (⟨"java/lang/String", "<init>", "([BB)V"⟩ : MethodName) = true := plainFor_of_name (by first | (simp [plainName, overriddenIn]; done) | decide +kernel)
theorem d4_0 : decode jdk_42_method_151_code 0 = .ok (.aload_n 0, 1) := by decide +kernel
theorem d4_1 : decode jdk_42_method_151_code 1 = .ok (.invokespecial 1, 3) := by decide +kernel
theorem d4_4 : decode jdk_42_method_151_code 4 = .ok (.aload_n 0, 1) := by decide +kernel
theorem d4_5 : decode jdk_42_method_151_code 5 = .ok (.aload_n 1, 1) := by decide +kernel
theorem d4_6 : decode jdk_42_method_151_code 6 = .ok (.putfield 9, 3) := by decide +kernel
theorem d4_9 : decode jdk_42_method_151_code 9 = .ok (.aload_n 0, 1) := by decide +kernel
theorem d4_10 : decode jdk_42_method_151_code 10 = .ok (.iload_n 2, 1) := by decide +kernel
theorem d4_11 : decode jdk_42_method_151_code 11 = .ok (.putfield 15, 3) := by decide +kernel
theorem d4_14 : decode jdk_42_method_151_code 14 = .ok (.return_, 1) := by decide +kernel
def Q_sI (Z : State) (r : Addr) (b : Addr) (h0 : Heap) (rv : Option Value) (h : Heap) (L : List Loc) : Prop := rv = none ∧ Fr Z.heap.size L ∧ Keep h0 h [r]
set_option maxRecDepth 65536 in
set_option maxHeartbeats 40000000 in
theorem rm_sI (l : Launch) (Z : State) (a0 : Array Value) (hw : ∀ d ∈ tables_1, d.before a0 Z = true) (r : Addr) (b : Addr) (h0 : Heap) (O0 : Ext Z.heap h0) (E0 : Exa Z h0 r "java/lang/String") (F1 : Fld Z h0 r "java/lang/String" "value" "[B" .null) (F2 : Fld Z h0 r "java/lang/String" "coder" "B" (.int (0 : Int32))) (hn : Z.heap.size ≤ r) :
    Met1 l Z (⟨"java/lang/String", "<init>", "([BB)V"⟩ : MethodName) jdk_42_method_151_code 3 none ({ frames := 1, cells := 0, slots := 0, locals := 12 } : Room) #[(.ref r), (.ref b), (.int (0 : Int32))] h0 (Q_sI Z r b h0) := by
  refine Met1.of_body (Ls := #[.val (.ref r), .val (.ref b), .val (.int (0 : Int32))]) pf_4 (fun m => by first | (simp [entryFrame, mkF, argsToLocals, Value.category]; done) | rfl) ?_
  intro p e s m below meth c T0 C X0 e0
  have N0 : Fr Z.heap.size [] := Fr.nil _
  refine Go.aloadN (pc' := 1) C X0 d4_0 rfl rfl rfl ?_
  refine Go.initO (pc' := 4) (W := 0) C X0 (tw hw 19 rfl) (tw hw 20 rfl) (tw hw 21 rfl) e0 rfl (by decide) (Nat.le_of_eq rfl) (by decide) d4_1 rfl ?_
  intro T101 X101 e101
  refine Go.aloadN (pc' := 5) C X101 d4_4 rfl rfl rfl ?_
  refine Go.aloadN (pc' := 6) C X101 d4_5 rfl rfl rfl ?_
  refine Go.putF (pc' := 9) (host := "") (ty := (.array .byte)) C X101 (Or.inl (tw hw 22 rfl)) Via.refl e101 F1 E0 (Or.inr ⟨(tw hw 23 rfl), rfl, rfl⟩) (tw hw 10 rfl) (by decide) rfl rfl d4_6 rfl ?_
  intro T102 h102 X102 e102 W102 F102
  have N102 := Fr.snoc X102 N0 hn
  refine Go.aloadN (pc' := 10) C X102 d4_9 rfl rfl rfl ?_
  refine Go.iloadN (pc' := 11) C X102 d4_10 rfl rfl ?_
  have c104 : Fld Z h102 r "java/lang/String" "coder" "B" (.int (0 : Int32)) := (Fld.other W102 F2 (Or.inr (slot_ne (Or.inr (tw hw 25 rfl)) (Or.inr (tw hw 23 rfl)) (by decide) (t := .byte) (t' := (.array .byte)) (by decide) (by decide))))
  have c105 : Exa Z h102 r "java/lang/String" := (Exa.wr W102 E0)
  refine Go.putFN (pc' := 14) (ty := .byte) (v' := .int (0 : Int32)) C X102 (tw hw 24 rfl) Via.refl e102 c104 c105 (Or.inr ⟨(tw hw 25 rfl), rfl, rfl⟩) (tw hw 10 rfl) (by decide) rfl (by decide) d4_11 rfl ?_
  intro T103 h103 X103 e103 W103 F103
  have N103 := Fr.snoc X103 N102 hn
  have K106 : Keep h0 h103 [r] := (((Keep.refl h0 [r]).wr W102 (Or.inl (by simp))).wr W103 (Or.inl (by simp)))
  exact Go.retV C X103 rfl d4_14 (by rw [e103]; exact ⟨rfl, N103, K106⟩) (by decide) (by decide)
theorem pd_0 : parseMethodDescriptor "(C)Z" = some ⟨[.char], some .boolean⟩ := by decide +kernel
theorem pd_1 : parseMethodDescriptor "(C)[B" = some ⟨[.char], some (.array .byte)⟩ := by decide +kernel
theorem pd_2 : parseMethodDescriptor "([BB)V" = some ⟨[(.array .byte), .byte], none⟩ := by decide +kernel
theorem pf_1 : plainFor (⟨"java/lang/String", "valueOf", "(C)Ljava/lang/String;"⟩ : MethodName) = true := plainFor_of_name (by first | (simp [plainName, overriddenIn]; done) | decide +kernel)
theorem d1_0 : decode jdk_42_method_139_code 0 = .ok (.getstatic 38, 3) := by decide +kernel
theorem d1_3 : decode jdk_42_method_139_code 3 = .ok (.ifCond .eq 23, 3) := by decide +kernel
theorem d1_6 : decode jdk_42_method_139_code 6 = .ok (.iload_n 0, 1) := by decide +kernel
theorem d1_7 : decode jdk_42_method_139_code 7 = .ok (.invokestatic 1015, 3) := by decide +kernel
theorem d1_10 : decode jdk_42_method_139_code 10 = .ok (.ifCond .eq 16, 3) := by decide +kernel
theorem d1_13 : decode jdk_42_method_139_code 13 = .ok (.new 10, 3) := by decide +kernel
theorem d1_16 : decode jdk_42_method_139_code 16 = .ok (.dup, 1) := by decide +kernel
theorem d1_17 : decode jdk_42_method_139_code 17 = .ok (.iload_n 0, 1) := by decide +kernel
theorem d1_18 : decode jdk_42_method_139_code 18 = .ok (.invokestatic 1018, 3) := by decide +kernel
theorem d1_21 : decode jdk_42_method_139_code 21 = .ok (.iconst 0, 1) := by decide +kernel
theorem d1_22 : decode jdk_42_method_139_code 22 = .ok (.invokespecial 209, 3) := by decide +kernel
theorem d1_25 : decode jdk_42_method_139_code 25 = .ok (.areturn, 1) := by decide +kernel
def Q_vc (Z : State) (x : Int32) (cP : Int32) (h0 : Heap) (rv : Option Value) (h : Heap) (L : List Loc) : Prop := ∃ r : Addr, rv = some (.ref r) ∧ Fr Z.heap.size L ∧ Keep h0 h [] ∧ h0.size ≤ r ∧ Exa Z h r "java/lang/String"
set_option maxRecDepth 65536 in
set_option maxHeartbeats 40000000 in
theorem rm_vc (l : Launch) (Z : State) (a0 : Array Value) (hw : ∀ d ∈ tables_1, d.before a0 Z = true) (x : Int32) (cP : Int32) (h0 : Heap) (O0 : Ext Z.heap h0) (SC : Sta Z Z.heap "java/lang/String" "COMPACT_STRINGS" "Z" (.int cP)) (hx : 0 ≤ x.toInt ∧ x.toInt ≤ 255) (hP : ¬ cP = (0 : Int32)) :
    Met1 l Z (⟨"java/lang/String", "valueOf", "(C)Ljava/lang/String;"⟩ : MethodName) jdk_42_method_139_code 1 (some (.object "java/lang/String")) ({ frames := 2, cells := 2, slots := 5, locals := 27 } : Room) #[(.int x)] h0 (Q_vc Z x cP h0) := by
  refine Met1.of_body (Ls := #[.val (.int x)]) pf_1 (fun m => by first | (simp [entryFrame, mkF, argsToLocals, Value.category]; done) | rfl) ?_
  intro p e s m below meth c T0 C X0 e0
  have N0 : Fr Z.heap.size [] := Fr.nil _
  refine Go.getS (pc' := 3) (host := "") C X0 (Or.inl (tw hw 4 rfl)) Via.refl e0 (SC.ext O0) d1_0 rfl ?_
  intro T101 X101 e101
  refine Go.ifNo (pc' := 6) C X101 d1_3 ((if0 _ _).trans (feq (x := cP) (y := (0 : Int32)) hP).1) rfl ?_
  refine Go.iloadN (pc' := 7) C X101 d1_6 rfl rfl ?_
  refine Go.callS (y := (⟨"java/lang/StringLatin1", "canEncode", "(C)Z"⟩ : MethodName)) (pc' := 10) C X101 (tw hw 5 rfl) (tw hw 6 rfl) (by decide) (rm_ce l Z a0 hw x h0 O0 hx) (tw hw 8 rfl) (tw hw 7 rfl) e101 (argsL := [(.int x)]) (rest := []) (W := 0) rfl rfl pd_0 rfl (Nat.le_of_eq rfl) rfl (by decide) (by decide) (by decide) (by decide) d1_7 rfl ?_
  intro T103 v103 L103 X103 q103
  obtain ⟨rfl, rfl, e103⟩ := q103
  have N103 := Fr.app N0 (Fr.nil _)
  refine Go.ifNo (pc' := 13) C X103 d1_10 ((if0 _ _).trans (feq (x := (1 : Int32)) (y := (0 : Int32)) (by decide)).1) rfl ?_
  refine Go.newO (pc' := 16) C X103 (tw hw 9 rfl) (tw hw 10 rfl) (tw hw 2 rfl) e103 (by decide) (by decide) d1_13 rfl ?_
  intro T105 h105 b105 X105 e105 g105 E105 A105 D105
  have n_b105 : Z.heap.size ≤ b105 := Nat.le_trans O0.1 (Nat.le_of_eq g105.symm)
  have z_b105 : h0.size ≤ b105 := Nat.le_trans (Nat.le_refl _) (Nat.le_of_eq g105.symm)
  have F105_value : Fld Z h105 b105 "java/lang/String" "value" "[B" .null := D105 (Or.inr (tw hw 23 rfl)) (ty := (.array .byte)) (by decide)
  have F105_coder : Fld Z h105 b105 "java/lang/String" "coder" "B" (.int (0 : Int32)) := D105 (Or.inr (tw hw 25 rfl)) (ty := .byte) (by decide)
  refine Go.dup (pc' := 17) C X105 d1_16 rfl rfl ?_
  refine Go.iloadN (pc' := 18) C X105 d1_17 rfl rfl ?_
  have O107 : Ext Z.heap h105 := (Ext.trans O0 E105)
  refine Go.callS (y := (⟨"java/lang/StringLatin1", "toBytes", "(C)[B"⟩ : MethodName)) (pc' := 21) C X105 (tw hw 11 rfl) (tw hw 12 rfl) (by decide) (rm_tb l Z a0 hw x h105 O107 ) (tw hw 13 rfl) (tw hw 7 rfl) e105 (argsL := [(.int x)]) (rest := [(.ref b105), (.ref b105)]) (W := 2) rfl rfl pd_1 rfl (Nat.le_of_eq rfl) rfl (by decide) (by decide) (by decide) (by decide) d1_18 rfl ?_
  intro T106 v106 L106 X106 q106
  obtain ⟨b_106, kb_106, rfl, N106q, K106, B106_0, P106_0⟩ := q106
  have N106 := Fr.app N103 N106q
  have n_b_106 : Z.heap.size ≤ b_106 := Nat.le_trans O107.1 B106_0
  have z_b_106 : h0.size ≤ b_106 := Nat.le_trans (Nat.le_trans (Nat.le_refl _) E105.1) B106_0
  refine Go.iconst (z := (0 : Int32)) (pc' := 22) C X106 d1_21 rfl rfl ?_
  have c109 : Exa Z T106.heap b105 "java/lang/String" := (Exa.keep A105 K106)
  have c110 : Fld Z T106.heap b105 "java/lang/String" "value" "[B" .null := (Fld.keep F105_value K106 nin0)
  have c111 : Fld Z T106.heap b105 "java/lang/String" "coder" "B" (.int (0 : Int32)) := (Fld.keep F105_coder K106 nin0)
  have O112 : Ext Z.heap T106.heap := (Ext.keep O107 K106 all0)
  refine Go.callI (y := (⟨"java/lang/String", "<init>", "([BB)V"⟩ : MethodName)) (a := b105) (pc' := 25) C X106 rfl (tw hw 15 rfl) (tw hw 16 rfl) (by decide) (rm_sI l Z a0 hw b105 b_106 T106.heap O112 c109 c110 c111 n_b105) (tw hw 18 rfl) (tw hw 2 rfl) rfl (argsL := [(.ref b_106), (.int (0 : Int32))]) (rest := [(.ref b105)]) (W := 1) rfl rfl pd_2 rfl (Nat.le_of_eq rfl) rfl (by decide) (by decide) (by decide) (by decide) rfl d1_22 rfl ?_
  intro T108 v108 L108 X108 q108
  obtain ⟨rfl, N108q, K108⟩ := q108
  have N108 := Fr.app N106 N108q
  have K113 : Keep h0 T108.heap [] := ((((Keep.refl h0 []).ext E105).trans K106 all0).trans K108 (allS (Or.inr z_b105) all0))
  have c114 : Exa Z T108.heap b105 "java/lang/String" := (Exa.keep c109 K108)
  exact Go.retA C X108 rfl d1_25 rfl rfl rfl ⟨b105, rfl, N108, K113, z_b105, c114⟩ (by decide) (by decide)
theorem pf_7 : plainFor (⟨"java/lang/Record", "<init>", "()V"⟩ : MethodName) = true := plainFor_of_name (by first | (simp [plainName, overriddenIn]; done) | decide +kernel)
theorem d7_0 : decode jdk_30_method_1_code 0 = .ok (.aload_n 0, 1) := by decide +kernel
theorem d7_1 : decode jdk_30_method_1_code 1 = .ok (.invokespecial 1, 3) := by decide +kernel
theorem d7_4 : decode jdk_30_method_1_code 4 = .ok (.return_, 1) := by decide +kernel
def Q_rec (Z : State) (r : Addr) (h0 : Heap) (rv : Option Value) (h : Heap) (L : List Loc) : Prop := rv = none ∧ L = [] ∧ h = h0
set_option maxRecDepth 65536 in
set_option maxHeartbeats 40000000 in
theorem rm_rec (l : Launch) (Z : State) (a0 : Array Value) (hw : ∀ d ∈ tables_1, d.before a0 Z = true) (r : Addr) (h0 : Heap) (O0 : Ext Z.heap h0) :
    Met1 l Z (⟨"java/lang/Record", "<init>", "()V"⟩ : MethodName) jdk_30_method_1_code 1 none ({ frames := 1, cells := 0, slots := 0, locals := 12 } : Room) #[(.ref r)] h0 (Q_rec Z r h0) := by
  refine Met1.of_body (Ls := #[.val (.ref r)]) pf_7 (fun m => by first | (simp [entryFrame, mkF, argsToLocals, Value.category]; done) | rfl) ?_
  intro p e s m below meth c T0 C X0 e0
  have N0 : Fr Z.heap.size [] := Fr.nil _
  refine Go.aloadN (pc' := 1) C X0 d7_0 rfl rfl rfl ?_
  refine Go.initO (pc' := 4) (W := 0) C X0 (tw hw 40 rfl) (tw hw 20 rfl) (tw hw 21 rfl) e0 rfl (by decide) (Nat.le_of_eq rfl) (by decide) d7_1 rfl ?_
  intro T101 X101 e101
  exact Go.retV C X101 rfl d7_4 (by rw [e101]; exact ⟨rfl, rfl, rfl⟩) (by decide) (by decide)
theorem pd_3 : parseMethodDescriptor "()V" = some ⟨[], none⟩ := by decide +kernel
theorem pf_6 : plainFor (⟨"com/example/tranche/tranche/journal/Entry", "<init>", "(ILjava/time/LocalDate;Ljava/time/LocalDate;)V"⟩ : MethodName) = true := plainFor_of_name (by first | (simp [plainName, overriddenIn]; done) | decide +kernel)
theorem d6_0 : decode prog_28_method_1_code 0 = .ok (.aload_n 0, 1) := by decide +kernel
theorem d6_1 : decode prog_28_method_1_code 1 = .ok (.invokespecial 1, 3) := by decide +kernel
theorem d6_4 : decode prog_28_method_1_code 4 = .ok (.aload_n 0, 1) := by decide +kernel
theorem d6_5 : decode prog_28_method_1_code 5 = .ok (.iload_n 1, 1) := by decide +kernel
theorem d6_6 : decode prog_28_method_1_code 6 = .ok (.putfield 7, 3) := by decide +kernel
theorem d6_9 : decode prog_28_method_1_code 9 = .ok (.aload_n 0, 1) := by decide +kernel
theorem d6_10 : decode prog_28_method_1_code 10 = .ok (.aload_n 2, 1) := by decide +kernel
theorem d6_11 : decode prog_28_method_1_code 11 = .ok (.putfield 13, 3) := by decide +kernel
theorem d6_14 : decode prog_28_method_1_code 14 = .ok (.aload_n 0, 1) := by decide +kernel
theorem d6_15 : decode prog_28_method_1_code 15 = .ok (.aload_n 3, 1) := by decide +kernel
theorem d6_16 : decode prog_28_method_1_code 16 = .ok (.putfield 17, 3) := by decide +kernel
theorem d6_19 : decode prog_28_method_1_code 19 = .ok (.return_, 1) := by decide +kernel
def Q_en (Z : State) (r : Addr) (n0 : Int32) (h0 : Heap) (rv : Option Value) (h : Heap) (L : List Loc) : Prop := rv = none ∧ Fr Z.heap.size L ∧ Keep h0 h [r]
set_option maxRecDepth 65536 in
set_option maxHeartbeats 40000000 in
theorem rm_en (l : Launch) (Z : State) (a0 : Array Value) (hw : ∀ d ∈ tables_1, d.before a0 Z = true) (r : Addr) (n0 : Int32) (h0 : Heap) (O0 : Ext Z.heap h0) (E0 : Exa Z h0 r "com/example/tranche/tranche/journal/Entry") (F1 : Fld Z h0 r "com/example/tranche/tranche/journal/Entry" "line" "I" (.int (0 : Int32))) (F2 : Fld Z h0 r "com/example/tranche/tranche/journal/Entry" "date" "Ljava/time/LocalDate;" .null) (F3 : Fld Z h0 r "com/example/tranche/tranche/journal/Entry" "recorded" "Ljava/time/LocalDate;" .null) (hn : Z.heap.size ≤ r) :
    Met1 l Z (⟨"com/example/tranche/tranche/journal/Entry", "<init>", "(ILjava/time/LocalDate;Ljava/time/LocalDate;)V"⟩ : MethodName) prog_28_method_1_code 4 none ({ frames := 2, cells := 0, slots := 0, locals := 24 } : Room) #[(.ref r), (.int n0), .null, .null] h0 (Q_en Z r n0 h0) := by
  refine Met1.of_body (Ls := #[.val (.ref r), .val (.int n0), .val .null, .val .null]) pf_6 (fun m => by first | (simp [entryFrame, mkF, argsToLocals, Value.category]; done) | rfl) ?_
  intro p e s m below meth c T0 C X0 e0
  have N0 : Fr Z.heap.size [] := Fr.nil _
  refine Go.aloadN (pc' := 1) C X0 d6_0 rfl rfl rfl ?_
  refine Go.callI (y := (⟨"java/lang/Record", "<init>", "()V"⟩ : MethodName)) (a := r) (pc' := 4) C X0 rfl (tw hw 35 rfl) (tw hw 36 rfl) (by decide) (rm_rec l Z a0 hw r h0 O0 ) (tw hw 39 rfl) (tw hw 38 rfl) e0 (argsL := []) (rest := []) (W := 0) rfl rfl pd_3 rfl (Nat.le_of_eq rfl) rfl (by decide) (by decide) (by decide) (by decide) rfl d6_1 rfl ?_
  intro T101 v101 L101 X101 q101
  obtain ⟨rfl, rfl, e101⟩ := q101
  have N101 := Fr.app N0 (Fr.nil _)
  refine Go.aloadN (pc' := 5) C X101 d6_4 rfl rfl rfl ?_
  refine Go.iloadN (pc' := 6) C X101 d6_5 rfl rfl ?_
  refine Go.putF (pc' := 9) (host := "") (ty := .int) C X101 (Or.inl (tw hw 41 rfl)) Via.refl e101 F1 E0 (Or.inr ⟨(tw hw 42 rfl), rfl, rfl⟩) (tw hw 30 rfl) (by decide) rfl rfl d6_6 rfl ?_
  intro T102 h102 X102 e102 W102 F102
  have N102 := Fr.snoc X102 N101 hn
  refine Go.aloadN (pc' := 10) C X102 d6_9 rfl rfl rfl ?_
  refine Go.aloadN (pc' := 11) C X102 d6_10 rfl rfl rfl ?_
  have c104 : Fld Z h102 r "com/example/tranche/tranche/journal/Entry" "date" "Ljava/time/LocalDate;" .null := (Fld.other W102 F2 (Or.inr (slot_ne (Or.inr (tw hw 44 rfl)) (Or.inr (tw hw 42 rfl)) (by decide) (t := (.object "java/time/LocalDate")) (t' := .int) (by decide) (by decide))))
  have c105 : Exa Z h102 r "com/example/tranche/tranche/journal/Entry" := (Exa.wr W102 E0)
  refine Go.putF (pc' := 14) (host := "") (ty := (.object "java/time/LocalDate")) C X102 (Or.inl (tw hw 43 rfl)) Via.refl e102 c104 c105 (Or.inr ⟨(tw hw 44 rfl), rfl, rfl⟩) (tw hw 30 rfl) (by decide) rfl rfl d6_11 rfl ?_
  intro T103 h103 X103 e103 W103 F103
  have N103 := Fr.snoc X103 N102 hn
  refine Go.aloadN (pc' := 15) C X103 d6_14 rfl rfl rfl ?_
  refine Go.aloadN (pc' := 16) C X103 d6_15 rfl rfl rfl ?_
  have c107 : Fld Z h103 r "com/example/tranche/tranche/journal/Entry" "recorded" "Ljava/time/LocalDate;" .null := (Fld.other W103 (Fld.other W102 F3 (Or.inr (slot_ne (Or.inr (tw hw 46 rfl)) (Or.inr (tw hw 42 rfl)) (by decide) (t := (.object "java/time/LocalDate")) (t' := .int) (by decide) (by decide)))) (Or.inr (slot_ne (Or.inr (tw hw 46 rfl)) (Or.inr (tw hw 44 rfl)) (by decide) (t := (.object "java/time/LocalDate")) (t' := (.object "java/time/LocalDate")) (by decide) (by decide))))
  have c108 : Exa Z h103 r "com/example/tranche/tranche/journal/Entry" := (Exa.wr W103 c105)
  refine Go.putF (pc' := 19) (host := "") (ty := (.object "java/time/LocalDate")) C X103 (Or.inl (tw hw 45 rfl)) Via.refl e103 c107 c108 (Or.inr ⟨(tw hw 46 rfl), rfl, rfl⟩) (tw hw 30 rfl) (by decide) rfl rfl d6_16 rfl ?_
  intro T106 h106 X106 e106 W106 F106
  have N106 := Fr.snoc X106 N103 hn
  have K109 : Keep h0 h106 [r] := ((((Keep.refl h0 [r]).wr W102 (Or.inl (by simp))).wr W103 (Or.inl (by simp))).wr W106 (Or.inl (by simp)))
  exact Go.retV C X106 rfl d6_19 (by rw [e106]; exact ⟨rfl, N106, K109⟩) (by decide) (by decide)
theorem pf_8 : plainFor (⟨"com/example/tranche/tranche/journal/DefaultRateChange", "<init>", "(Lcom/example/tranche/tranche/journal/Entry;Z)V"⟩ : MethodName) = true := plainFor_of_name (by first | (simp [plainName, overriddenIn]; done) | decide +kernel)
theorem d8_0 : decode prog_27_method_1_code 0 = .ok (.aload_n 0, 1) := by decide +kernel
theorem d8_1 : decode prog_27_method_1_code 1 = .ok (.invokespecial 1, 3) := by decide +kernel
theorem d8_4 : decode prog_27_method_1_code 4 = .ok (.aload_n 0, 1) := by decide +kernel
theorem d8_5 : decode prog_27_method_1_code 5 = .ok (.aload_n 1, 1) := by decide +kernel
theorem d8_6 : decode prog_27_method_1_code 6 = .ok (.putfield 7, 3) := by decide +kernel
theorem d8_9 : decode prog_27_method_1_code 9 = .ok (.aload_n 0, 1) := by decide +kernel
theorem d8_10 : decode prog_27_method_1_code 10 = .ok (.iload_n 2, 1) := by decide +kernel
theorem d8_11 : decode prog_27_method_1_code 11 = .ok (.putfield 13, 3) := by decide +kernel
theorem d8_14 : decode prog_27_method_1_code 14 = .ok (.return_, 1) := by decide +kernel
def Q_dr (Z : State) (r : Addr) (y : Addr) (n0 : Int32) (h0 : Heap) (rv : Option Value) (h : Heap) (L : List Loc) : Prop := rv = none ∧ Fr Z.heap.size L ∧ Keep h0 h [r]
set_option maxRecDepth 65536 in
set_option maxHeartbeats 40000000 in
theorem rm_dr (l : Launch) (Z : State) (a0 : Array Value) (hw : ∀ d ∈ tables_1, d.before a0 Z = true) (r : Addr) (y : Addr) (n0 : Int32) (h0 : Heap) (O0 : Ext Z.heap h0) (E0 : Exa Z h0 r "com/example/tranche/tranche/journal/DefaultRateChange") (F1 : Fld Z h0 r "com/example/tranche/tranche/journal/DefaultRateChange" "entry" "Lcom/example/tranche/tranche/journal/Entry;" .null) (F2 : Fld Z h0 r "com/example/tranche/tranche/journal/DefaultRateChange" "applies" "Z" (.int (0 : Int32))) (hn : Z.heap.size ≤ r) :
    Met1 l Z (⟨"com/example/tranche/tranche/journal/DefaultRateChange", "<init>", "(Lcom/example/tranche/tranche/journal/Entry;Z)V"⟩ : MethodName) prog_27_method_1_code 3 none ({ frames := 2, cells := 0, slots := 0, locals := 24 } : Room) #[(.ref r), (.ref y), (.int n0)] h0 (Q_dr Z r y n0 h0) := by
  refine Met1.of_body (Ls := #[.val (.ref r), .val (.ref y), .val (.int n0)]) pf_8 (fun m => by first | (simp [entryFrame, mkF, argsToLocals, Value.category]; done) | rfl) ?_
  intro p e s m below meth c T0 C X0 e0
  have N0 : Fr Z.heap.size [] := Fr.nil _
  refine Go.aloadN (pc' := 1) C X0 d8_0 rfl rfl rfl ?_
  refine Go.callI (y := (⟨"java/lang/Record", "<init>", "()V"⟩ : MethodName)) (a := r) (pc' := 4) C X0 rfl (tw hw 50 rfl) (tw hw 36 rfl) (by decide) (rm_rec l Z a0 hw r h0 O0 ) (tw hw 39 rfl) (tw hw 38 rfl) e0 (argsL := []) (rest := []) (W := 0) rfl rfl pd_3 rfl (Nat.le_of_eq rfl) rfl (by decide) (by decide) (by decide) (by decide) rfl d8_1 rfl ?_
  intro T101 v101 L101 X101 q101
  obtain ⟨rfl, rfl, e101⟩ := q101
  have N101 := Fr.app N0 (Fr.nil _)
  refine Go.aloadN (pc' := 5) C X101 d8_4 rfl rfl rfl ?_
  refine Go.aloadN (pc' := 6) C X101 d8_5 rfl rfl rfl ?_
  refine Go.putF (pc' := 9) (host := "") (ty := (.object "com/example/tranche/tranche/journal/Entry")) C X101 (Or.inl (tw hw 51 rfl)) Via.refl e101 F1 E0 (Or.inr ⟨(tw hw 52 rfl), rfl, rfl⟩) (tw hw 27 rfl) (by decide) rfl rfl d8_6 rfl ?_
  intro T102 h102 X102 e102 W102 F102
  have N102 := Fr.snoc X102 N101 hn
  refine Go.aloadN (pc' := 10) C X102 d8_9 rfl rfl rfl ?_
  refine Go.iloadN (pc' := 11) C X102 d8_10 rfl rfl ?_
  have c104 : Fld Z h102 r "com/example/tranche/tranche/journal/DefaultRateChange" "applies" "Z" (.int (0 : Int32)) := (Fld.other W102 F2 (Or.inr (slot_ne (Or.inr (tw hw 54 rfl)) (Or.inr (tw hw 52 rfl)) (by decide) (t := .boolean) (t' := (.object "com/example/tranche/tranche/journal/Entry")) (by decide) (by decide))))
  have c105 : Exa Z h102 r "com/example/tranche/tranche/journal/DefaultRateChange" := (Exa.wr W102 E0)
  refine Go.putFN (pc' := 14) (ty := .boolean) (v' := .int (nar .boolean n0)) C X102 (tw hw 53 rfl) Via.refl e102 c104 c105 (Or.inr ⟨(tw hw 54 rfl), rfl, rfl⟩) (tw hw 27 rfl) (by decide) rfl (fits_nar_bool _) d8_11 rfl ?_
  intro T103 h103 X103 e103 W103 F103
  have N103 := Fr.snoc X103 N102 hn
  have K106 : Keep h0 h103 [r] := (((Keep.refl h0 [r]).wr W102 (Or.inl (by simp))).wr W103 (Or.inl (by simp)))
  exact Go.retV C X103 rfl d8_14 (by rw [e103]; exact ⟨rfl, N103, K106⟩) (by decide) (by decide)
theorem pf_11 : plainFor (⟨"java/util/AbstractCollection", "<init>", "()V"⟩ : MethodName) = true := plainFor_of_name (by first | (simp [plainName, overriddenIn]; done) | decide +kernel)
theorem d11_0 : decode jdk_22_method_1_code 0 = .ok (.aload_n 0, 1) := by decide +kernel
theorem d11_1 : decode jdk_22_method_1_code 1 = .ok (.invokespecial 1, 3) := by decide +kernel
theorem d11_4 : decode jdk_22_method_1_code 4 = .ok (.return_, 1) := by decide +kernel
def Q_ac (Z : State) (r : Addr) (h0 : Heap) (rv : Option Value) (h : Heap) (L : List Loc) : Prop := rv = none ∧ L = [] ∧ h = h0
set_option maxRecDepth 65536 in
set_option maxHeartbeats 40000000 in
theorem rm_ac (l : Launch) (Z : State) (a0 : Array Value) (hw : ∀ d ∈ tables_1, d.before a0 Z = true) (r : Addr) (h0 : Heap) (O0 : Ext Z.heap h0) :
    Met1 l Z (⟨"java/util/AbstractCollection", "<init>", "()V"⟩ : MethodName) jdk_22_method_1_code 1 none ({ frames := 1, cells := 0, slots := 0, locals := 12 } : Room) #[(.ref r)] h0 (Q_ac Z r h0) := by
  refine Met1.of_body (Ls := #[.val (.ref r)]) pf_11 (fun m => by first | (simp [entryFrame, mkF, argsToLocals, Value.category]; done) | rfl) ?_
  intro p e s m below meth c T0 C X0 e0
  have N0 : Fr Z.heap.size [] := Fr.nil _
  refine Go.aloadN (pc' := 1) C X0 d11_0 rfl rfl rfl ?_
  refine Go.initO (pc' := 4) (W := 0) C X0 (tw hw 73 rfl) (tw hw 20 rfl) (tw hw 21 rfl) e0 rfl (by decide) (Nat.le_of_eq rfl) (by decide) d11_1 rfl ?_
  intro T101 X101 e101
  exact Go.retV C X101 rfl d11_4 (by rw [e101]; exact ⟨rfl, rfl, rfl⟩) (by decide) (by decide)
theorem pf_10 : plainFor (⟨"java/util/AbstractList", "<init>", "()V"⟩ : MethodName) = true := plainFor_of_name (by first | (simp [plainName, overriddenIn]; done) | decide +kernel)
theorem d10_0 : decode jdk_39_method_1_code 0 = .ok (.aload_n 0, 1) := by decide +kernel
theorem d10_1 : decode jdk_39_method_1_code 1 = .ok (.invokespecial 1, 3) := by decide +kernel
theorem d10_4 : decode jdk_39_method_1_code 4 = .ok (.aload_n 0, 1) := by decide +kernel
theorem d10_5 : decode jdk_39_method_1_code 5 = .ok (.iconst 0, 1) := by decide +kernel
theorem d10_6 : decode jdk_39_method_1_code 6 = .ok (.putfield 7, 3) := by decide +kernel
theorem d10_9 : decode jdk_39_method_1_code 9 = .ok (.return_, 1) := by decide +kernel
def Q_abl (Z : State) (r : Addr) (h0 : Heap) (rv : Option Value) (h : Heap) (L : List Loc) : Prop := rv = none ∧ Fr Z.heap.size L ∧ Keep h0 h [r] ∧ Fld Z h r "java/util/AbstractList" "modCount" "I" (.int (0 : Int32)) ∧ Fld Z h r "java/util/ArrayList" "elementData" "[Ljava/lang/Object;" .null ∧ Fld Z h r "java/util/ArrayList" "size" "I" (.int (0 : Int32))
set_option maxRecDepth 65536 in
set_option maxHeartbeats 40000000 in
theorem rm_abl (l : Launch) (Z : State) (a0 : Array Value) (hw : ∀ d ∈ tables_1, d.before a0 Z = true) (r : Addr) (h0 : Heap) (O0 : Ext Z.heap h0) (E0 : Exa Z h0 r "java/util/ArrayList") (F1 : Fld Z h0 r "java/util/AbstractList" "modCount" "I" (.int (0 : Int32))) (F2 : Fld Z h0 r "java/util/ArrayList" "elementData" "[Ljava/lang/Object;" .null) (F3 : Fld Z h0 r "java/util/ArrayList" "size" "I" (.int (0 : Int32))) (hn : Z.heap.size ≤ r) :
    Met1 l Z (⟨"java/util/AbstractList", "<init>", "()V"⟩ : MethodName) jdk_39_method_1_code 1 none ({ frames := 2, cells := 0, slots := 0, locals := 24 } : Room) #[(.ref r)] h0 (Q_abl Z r h0) := by
  refine Met1.of_body (Ls := #[.val (.ref r)]) pf_10 (fun m => by first | (simp [entryFrame, mkF, argsToLocals, Value.category]; done) | rfl) ?_
  intro p e s m below meth c T0 C X0 e0
  have N0 : Fr Z.heap.size [] := Fr.nil _
  refine Go.aloadN (pc' := 1) C X0 d10_0 rfl rfl rfl ?_
  refine Go.callI (y := (⟨"java/util/AbstractCollection", "<init>", "()V"⟩ : MethodName)) (a := r) (pc' := 4) C X0 rfl (tw hw 67 rfl) (tw hw 68 rfl) (by decide) (rm_ac l Z a0 hw r h0 O0 ) (tw hw 72 rfl) (tw hw 71 rfl) e0 (argsL := []) (rest := []) (W := 0) rfl rfl pd_3 rfl (Nat.le_of_eq rfl) rfl (by decide) (by decide) (by decide) (by decide) rfl d10_1 rfl ?_
  intro T101 v101 L101 X101 q101
  obtain ⟨rfl, rfl, e101⟩ := q101
  have N101 := Fr.app N0 (Fr.nil _)
  refine Go.aloadN (pc' := 5) C X101 d10_4 rfl rfl rfl ?_
  refine Go.iconst (z := (0 : Int32)) (pc' := 6) C X101 d10_5 rfl rfl ?_
  refine Go.putF (pc' := 9) (host := "") (ty := .int) C X101 (Or.inl (tw hw 74 rfl)) Via.refl e101 F1 E0 (Or.inl (tw hw 75 rfl)) (tw hw 56 rfl) (by decide) rfl rfl d10_6 rfl ?_
  intro T102 h102 X102 e102 W102 F102
  have N102 := Fr.snoc X102 N101 hn
  have K103 : Keep h0 h102 [r] := ((Keep.refl h0 [r]).wr W102 (Or.inl (by simp)))
  have c104 : Fld Z h102 r "java/util/ArrayList" "elementData" "[Ljava/lang/Object;" .null := (Fld.other W102 F2 (Or.inr (slot_ne (Or.inl (tw hw 78 rfl)) (Or.inl (tw hw 75 rfl)) (by decide) (t := (.array (.object "java/lang/Object"))) (t' := .int) (by decide) (by decide))))
  have c105 : Fld Z h102 r "java/util/ArrayList" "size" "I" (.int (0 : Int32)) := (Fld.other W102 F3 (Or.inr (slot_ne (Or.inl (tw hw 110 rfl)) (Or.inl (tw hw 75 rfl)) (by decide) (t := .int) (t' := .int) (by decide) (by decide))))
  exact Go.retV C X102 rfl d10_9 (by rw [e102]; exact ⟨rfl, N102, K103, F102, c104, c105⟩) (by decide) (by decide)
theorem pf_9 : plainFor (⟨"java/util/ArrayList", "<init>", "()V"⟩ : MethodName) = true := plainFor_of_name (by first | (simp [plainName, overriddenIn]; done) | decide +kernel)
theorem d9_0 : decode jdk_38_method_2_code 0 = .ok (.aload_n 0, 1) := by decide +kernel
theorem d9_1 : decode jdk_38_method_2_code 1 = .ok (.invokespecial 1, 3) := by decide +kernel
theorem d9_4 : decode jdk_38_method_2_code 4 = .ok (.aload_n 0, 1) := by decide +kernel
theorem d9_5 : decode jdk_38_method_2_code 5 = .ok (.getstatic 39, 3) := by decide +kernel
theorem d9_8 : decode jdk_38_method_2_code 8 = .ok (.putfield 9, 3) := by decide +kernel
theorem d9_11 : decode jdk_38_method_2_code 11 = .ok (.return_, 1) := by decide +kernel
def Q_alI (Z : State) (r : Addr) (dc : Addr) (h0 : Heap) (rv : Option Value) (h : Heap) (L : List Loc) : Prop := rv = none ∧ Fr Z.heap.size L ∧ Keep h0 h [r] ∧ Fld Z h r "java/util/AbstractList" "modCount" "I" (.int (0 : Int32)) ∧ Fld Z h r "java/util/ArrayList" "elementData" "[Ljava/lang/Object;" (.ref dc) ∧ Fld Z h r "java/util/ArrayList" "size" "I" (.int (0 : Int32))
set_option maxRecDepth 65536 in
set_option maxHeartbeats 40000000 in
theorem rm_alI (l : Launch) (Z : State) (a0 : Array Value) (hw : ∀ d ∈ tables_1, d.before a0 Z = true) (r : Addr) (dc : Addr) (h0 : Heap) (O0 : Ext Z.heap h0) (E0 : Exa Z h0 r "java/util/ArrayList") (F1 : Fld Z h0 r "java/util/AbstractList" "modCount" "I" (.int (0 : Int32))) (F2 : Fld Z h0 r "java/util/ArrayList" "elementData" "[Ljava/lang/Object;" .null) (F3 : Fld Z h0 r "java/util/ArrayList" "size" "I" (.int (0 : Int32))) (SD : Sta Z Z.heap "java/util/ArrayList" "DEFAULTCAPACITY_EMPTY_ELEMENTDATA" "[Ljava/lang/Object;" (.ref dc)) (hn : Z.heap.size ≤ r) :
    Met1 l Z (⟨"java/util/ArrayList", "<init>", "()V"⟩ : MethodName) jdk_38_method_2_code 1 none ({ frames := 3, cells := 0, slots := 0, locals := 36 } : Room) #[(.ref r)] h0 (Q_alI Z r dc h0) := by
  refine Met1.of_body (Ls := #[.val (.ref r)]) pf_9 (fun m => by first | (simp [entryFrame, mkF, argsToLocals, Value.category]; done) | rfl) ?_
  intro p e s m below meth c T0 C X0 e0
  have N0 : Fr Z.heap.size [] := Fr.nil _
  refine Go.aloadN (pc' := 1) C X0 d9_0 rfl rfl rfl ?_
  refine Go.callI (y := (⟨"java/util/AbstractList", "<init>", "()V"⟩ : MethodName)) (a := r) (pc' := 4) C X0 rfl (tw hw 61 rfl) (tw hw 62 rfl) (by decide) (rm_abl l Z a0 hw r h0 O0 E0 F1 F2 F3 hn) (tw hw 66 rfl) (tw hw 65 rfl) e0 (argsL := []) (rest := []) (W := 0) rfl rfl pd_3 rfl (Nat.le_of_eq rfl) rfl (by decide) (by decide) (by decide) (by decide) rfl d9_1 rfl ?_
  intro T101 v101 L101 X101 q101
  obtain ⟨rfl, N101q, K101, P101_0, P101_1, P101_2⟩ := q101
  have N101 := Fr.app N0 N101q
  refine Go.aloadN (pc' := 5) C X101 d9_4 rfl rfl rfl ?_
  have O103 : Ext Z.heap T101.heap := (Ext.keep O0 K101 (allS hn all0))
  refine Go.getS (pc' := 8) (host := "") C X101 (Or.inl (tw hw 76 rfl)) Via.refl rfl (SD.ext O103) d9_5 rfl ?_
  intro T102 X102 e102
  have c105 : Exa Z T101.heap r "java/util/ArrayList" := (Exa.keep E0 K101)
  refine Go.putF (pc' := 11) (host := "") (ty := (.array (.object "java/lang/Object"))) C X102 (Or.inl (tw hw 77 rfl)) Via.refl e102 P101_1 c105 (Or.inl (tw hw 78 rfl)) (tw hw 56 rfl) (by decide) rfl rfl d9_8 rfl ?_
  intro T104 h104 X104 e104 W104 F104
  have N104 := Fr.snoc X104 N101 hn
  have K106 : Keep h0 h104 [r] := (((Keep.refl h0 [r]).trans K101 (allS (Or.inl (by simp)) all0)).wr W104 (Or.inl (by simp)))
  have c107 : Fld Z h104 r "java/util/AbstractList" "modCount" "I" (.int (0 : Int32)) := (Fld.other W104 P101_0 (Or.inr (slot_ne (Or.inl (tw hw 75 rfl)) (Or.inl (tw hw 78 rfl)) (by decide) (t := .int) (t' := (.array (.object "java/lang/Object"))) (by decide) (by decide))))
  have c108 : Fld Z h104 r "java/util/ArrayList" "size" "I" (.int (0 : Int32)) := (Fld.other W104 P101_2 (Or.inr (slot_ne (Or.inl (tw hw 110 rfl)) (Or.inl (tw hw 78 rfl)) (by decide) (t := .int) (t' := (.array (.object "java/lang/Object"))) (by decide) (by decide))))
  exact Go.retV C X104 rfl d9_11 (by rw [e104]; exact ⟨rfl, N104, K106, c107, F104, c108⟩) (by decide) (by decide)
theorem pf_21 : plainFor (⟨"java/lang/Math", "max", "(II)I"⟩ : MethodName) = true := Jvm.Free.JP.mathPlain rfl (by decide +kernel)
theorem d21_0 : decode jdk_29_method_65_code 0 = .ok (.iload_n 0, 1) := by decide +kernel
theorem d21_1 : decode jdk_29_method_65_code 1 = .ok (.iload_n 1, 1) := by decide +kernel
theorem d21_2 : decode jdk_29_method_65_code 2 = .ok (.if_icmp .lt 7, 3) := by decide +kernel
theorem d21_5 : decode jdk_29_method_65_code 5 = .ok (.iload_n 0, 1) := by decide +kernel
theorem d21_6 : decode jdk_29_method_65_code 6 = .ok (.goto 4, 3) := by decide +kernel
theorem d21_10 : decode jdk_29_method_65_code 10 = .ok (.ireturn, 1) := by decide +kernel
def Q_mx (Z : State)  (h0 : Heap) (rv : Option Value) (h : Heap) (L : List Loc) : Prop := rv = some (.int (10 : Int32)) ∧ L = [] ∧ h = h0
set_option maxRecDepth 65536 in
set_option maxHeartbeats 40000000 in
theorem rm_mx (l : Launch) (Z : State) (a0 : Array Value) (hw : ∀ d ∈ tables_1, d.before a0 Z = true)  (h0 : Heap) (O0 : Ext Z.heap h0) :
    Met1 l Z (⟨"java/lang/Math", "max", "(II)I"⟩ : MethodName) jdk_29_method_65_code 2 (some .int) ({ frames := 0, cells := 0, slots := 0, locals := 0 } : Room) #[(.int (10 : Int32)), (.int (1 : Int32))] h0 (Q_mx Z  h0) := by
  refine Met1.of_body (Ls := #[.val (.int (10 : Int32)), .val (.int (1 : Int32))]) pf_21 (fun m => by first | (simp [entryFrame, mkF, argsToLocals, Value.category]; done) | rfl) ?_
  intro p e s m below meth c T0 C X0 e0
  have N0 : Fr Z.heap.size [] := Fr.nil _
  refine Go.iloadN (pc' := 1) C X0 d21_0 rfl rfl ?_
  refine Go.iloadN (pc' := 2) C X0 d21_1 rfl rfl ?_
  refine Go.icmpNo (pc' := 5) C X0 d21_2 (flt (x := (10 : Int32)) (y := (1 : Int32)) (by decide)).1 rfl ?_
  refine Go.iloadN (pc' := 6) C X0 d21_5 rfl rfl ?_
  refine Go.goto (pc' := 10) C X0 d21_6 (by decide) (by decide) ?_
  exact Go.retI C X0 rfl d21_10 (by rw [e0]; exact ⟨rfl, rfl, rfl⟩) (by decide) (by decide)
theorem pd_4 : parseMethodDescriptor "(II)I" = some ⟨[.int, .int], some .int⟩ := by decide +kernel
theorem pf_20 : plainFor (⟨"java/util/ArrayList", "grow", "(I)[Ljava/lang/Object;"⟩ : MethodName) = true := plainFor_of_name (by first | (simp [plainName, overriddenIn]; done) | decide +kernel)
theorem d20_0 : decode jdk_38_method_6_code 0 = .ok (.aload_n 0, 1) := by decide +kernel
theorem d20_1 : decode jdk_38_method_6_code 1 = .ok (.getfield 9, 3) := by decide +kernel
theorem d20_4 : decode jdk_38_method_6_code 4 = .ok (.arraylength, 1) := by decide +kernel
theorem d20_5 : decode jdk_38_method_6_code 5 = .ok (.istore_n 2, 1) := by decide +kernel
theorem d20_6 : decode jdk_38_method_6_code 6 = .ok (.iload_n 2, 1) := by decide +kernel
theorem d20_7 : decode jdk_38_method_6_code 7 = .ok (.ifCond .gt 13, 3) := by decide +kernel
theorem d20_10 : decode jdk_38_method_6_code 10 = .ok (.aload_n 0, 1) := by decide +kernel
theorem d20_11 : decode jdk_38_method_6_code 11 = .ok (.getfield 9, 3) := by decide +kernel
theorem d20_14 : decode jdk_38_method_6_code 14 = .ok (.getstatic 39, 3) := by decide +kernel
theorem d20_17 : decode jdk_38_method_6_code 17 = .ok (.if_acmp .eq 28, 3) := by decide +kernel
theorem d20_45 : decode jdk_38_method_6_code 45 = .ok (.aload_n 0, 1) := by decide +kernel
theorem d20_46 : decode jdk_38_method_6_code 46 = .ok (.bipush 10, 2) := by decide +kernel
theorem d20_48 : decode jdk_38_method_6_code 48 = .ok (.iload_n 1, 1) := by decide +kernel
theorem d20_49 : decode jdk_38_method_6_code 49 = .ok (.invokestatic 79, 3) := by decide +kernel
theorem d20_52 : decode jdk_38_method_6_code 52 = .ok (.anewarray 7, 3) := by decide +kernel
theorem d20_55 : decode jdk_38_method_6_code 55 = .ok (.dup_x1, 1) := by decide +kernel
theorem d20_56 : decode jdk_38_method_6_code 56 = .ok (.putfield 9, 3) := by decide +kernel
theorem d20_59 : decode jdk_38_method_6_code 59 = .ok (.areturn, 1) := by decide +kernel
def Q_gr1 (Z : State) (r : Addr) (dc : Addr) (kd : ClassId) (mc : Int32) (h0 : Heap) (rv : Option Value) (h : Heap) (L : List Loc) : Prop := ∃ w : Addr, ∃ kw : ClassId, rv = some (.ref w) ∧ Fr Z.heap.size L ∧ Keep h0 h [r] ∧ h0.size ≤ w ∧ Fld Z h r "java/util/AbstractList" "modCount" "I" (.int mc) ∧ Fld Z h r "java/util/ArrayList" "elementData" "[Ljava/lang/Object;" (.ref w) ∧ Fld Z h r "java/util/ArrayList" "size" "I" (.int (0 : Int32)) ∧ Exa Z h w "[Ljava/lang/Object;" ∧ AL Z h w kw (.object "java/lang/Object") [.null, .null, .null, .null, .null, .null, .null, .null, .null, .null] ∧ (Ovr Z kw "java/lang/Object")
set_option maxRecDepth 65536 in
set_option maxHeartbeats 40000000 in
theorem rm_gr1 (l : Launch) (Z : State) (a0 : Array Value) (hw : ∀ d ∈ tables_1, d.before a0 Z = true) (r : Addr) (dc : Addr) (kd : ClassId) (mc : Int32) (h0 : Heap) (O0 : Ext Z.heap h0) (E0 : Exa Z h0 r "java/util/ArrayList") (F1 : Fld Z h0 r "java/util/AbstractList" "modCount" "I" (.int mc)) (F3 : Fld Z h0 r "java/util/ArrayList" "size" "I" (.int (0 : Int32))) (F2 : Fld Z h0 r "java/util/ArrayList" "elementData" "[Ljava/lang/Object;" (.ref dc)) (SD : Sta Z Z.heap "java/util/ArrayList" "DEFAULTCAPACITY_EMPTY_ELEMENTDATA" "[Ljava/lang/Object;" (.ref dc)) (AD : AL Z Z.heap dc kd (.object "java/lang/Object") []) (hn : Z.heap.size ≤ r) :
    Met1 l Z (⟨"java/util/ArrayList", "grow", "(I)[Ljava/lang/Object;"⟩ : MethodName) jdk_38_method_6_code 4 (some (.array (.object "java/lang/Object"))) ({ frames := 1, cells := 1, slots := 10, locals := 14 } : Room) #[(.ref r), (.int (1 : Int32))] h0 (Q_gr1 Z r dc kd mc h0) := by
  refine Met1.of_body (Ls := #[.val (.ref r), .val (.int (1 : Int32)), .unset, .unset]) pf_20 (fun m => by first | (simp [entryFrame, mkF, argsToLocals, Value.category]; done) | rfl) ?_
  intro p e s m below meth c T0 C X0 e0
  have N0 : Fr Z.heap.size [] := Fr.nil _
  refine Go.aloadN (pc' := 1) C X0 d20_0 rfl rfl rfl ?_
  refine Go.getF (pc' := 4) (host := "") C X0 (Or.inl (tw hw 77 rfl)) Via.refl e0 F2 d20_1 rfl ?_
  intro T101 X101 e101
  refine Go.alen (z := (0 : Int32)) (pc' := 5) C X101 e101 (AD.ext O0) rfl d20_4 rfl ?_
  refine Go.istoreN (Ls' := #[.val (.ref r), .val (.int (1 : Int32)), .val (.int (0 : Int32)), .unset]) (pc' := 6) C X101 d20_5 rfl rfl ?_
  refine Go.iloadN (pc' := 7) C X101 d20_6 rfl rfl ?_
  refine Go.ifNo (pc' := 10) C X101 d20_7 ((if0 _ _).trans (flt (x := (0 : Int32)) (y := (0 : Int32)) (by decide)).2.2.1) rfl ?_
  refine Go.aloadN (pc' := 11) C X101 d20_10 rfl rfl rfl ?_
  refine Go.getF (pc' := 14) (host := "") C X101 (Or.inl (tw hw 77 rfl)) Via.refl e101 F2 d20_11 rfl ?_
  intro T103 X103 e103
  refine Go.getS (pc' := 17) (host := "") C X103 (Or.inl (tw hw 76 rfl)) Via.refl e103 (SD.ext O0) d20_14 rfl ?_
  intro T104 X104 e104
  refine Go.acmpYes (pc' := 45) C X104 d20_17 rfl rfl (XT.aa_eq_t rfl) (by decide) (by decide) ?_
  refine Go.aloadN (pc' := 46) C X104 d20_45 rfl rfl rfl ?_
  refine Go.bipush (z := (10 : Int32)) (pc' := 48) C X104 d20_46 rfl rfl ?_
  refine Go.iloadN (pc' := 49) C X104 d20_48 rfl rfl ?_
  refine Go.callS (y := (⟨"java/lang/Math", "max", "(II)I"⟩ : MethodName)) (pc' := 52) C X104 (tw hw 143 rfl) (tw hw 144 rfl) (by decide) (rm_mx l Z a0 hw  h0 O0 ) (tw hw 146 rfl) (tw hw 145 rfl) e104 (argsL := [(.int (10 : Int32)), (.int (1 : Int32))]) (rest := [(.ref r)]) (W := 1) rfl rfl pd_4 rfl (Nat.le_of_eq rfl) rfl (by decide) (by decide) (by decide) (by decide) d20_49 rfl ?_
  intro T105 v105 L105 X105 q105
  obtain ⟨rfl, rfl, e105⟩ := q105
  have N105 := Fr.app N0 (Fr.nil _)
  refine Go.newR (cap := 10) (vs := [.null, .null, .null, .null, .null, .null, .null, .null, .null, .null]) (ad := "[Ljava/lang/Object;") (pc' := 55) C X105 (by decide) (tw hw 147 rfl) (tw hw 148 rfl) e105 (by decide) (by decide) (by decide) (by decide) (by decide) rfl d20_52 rfl ?_
  intro T106 h106 b106 k106 X106 e106 g106 E106 A106 Ea106 O106v
  have n_b106 : Z.heap.size ≤ b106 := Nat.le_trans O0.1 (Nat.le_of_eq g106.symm)
  have z_b106 : h0.size ≤ b106 := Nat.le_trans (Nat.le_refl _) (Nat.le_of_eq g106.symm)
  have A106 : AL Z h106 b106 k106 (.object "java/lang/Object") [.null, .null, .null, .null, .null, .null, .null, .null, .null, .null] := A106
  refine Go.dupX1 (pc' := 56) C X106 d20_55 rfl rfl rfl ?_
  have c108 : Fld Z h106 r "java/util/ArrayList" "elementData" "[Ljava/lang/Object;" (.ref dc) := (Fld.ext E106 F2)
  have c109 : Exa Z h106 r "java/util/ArrayList" := (Exa.ext E106 E0)
  refine Go.putF (pc' := 59) (host := "") (ty := (.array (.object "java/lang/Object"))) C X106 (Or.inl (tw hw 77 rfl)) Via.refl e106 c108 c109 (Or.inl (tw hw 78 rfl)) (tw hw 56 rfl) (by decide) rfl rfl d20_56 rfl ?_
  intro T107 h107 X107 e107 W107 F107
  have N107 := Fr.snoc X107 N105 hn
  have K110 : Keep h0 h107 [r] := (((Keep.refl h0 [r]).ext E106).wr W107 (Or.inl (by simp)))
  have c111 : Fld Z h107 r "java/util/AbstractList" "modCount" "I" (.int mc) := (Fld.other W107 (Fld.ext E106 F1) (Or.inr (slot_ne (Or.inl (tw hw 75 rfl)) (Or.inl (tw hw 78 rfl)) (by decide) (t := .int) (t' := (.array (.object "java/lang/Object"))) (by decide) (by decide))))
  have c112 : Fld Z h107 r "java/util/ArrayList" "size" "I" (.int (0 : Int32)) := (Fld.other W107 (Fld.ext E106 F3) (Or.inr (slot_ne (Or.inl (tw hw 110 rfl)) (Or.inl (tw hw 78 rfl)) (by decide) (t := .int) (t' := (.array (.object "java/lang/Object"))) (by decide) (by decide))))
  have c113 : Exa Z h107 b106 "[Ljava/lang/Object;" := (Exa.wr W107 Ea106)
  have ne114 : b106 ≠ r := (Nat.ne_of_gt (Nat.lt_of_lt_of_le E0.lt (Nat.le_trans (Nat.le_refl _) (Nat.le_of_eq g106.symm))))
  have c115 : AL Z h107 b106 k106 (.object "java/lang/Object") [.null, .null, .null, .null, .null, .null, .null, .null, .null, .null] := (AL.other W107 A106 ne114)
  exact Go.retA C X107 rfl d20_59 rfl rfl rfl (by rw [e107]; exact ⟨b106, k106, rfl, N107, K110, z_b106, c111, F107, c112, c113, c115, O106v⟩) (by decide) (by decide)
theorem pd_5 : parseMethodDescriptor "(I)[Ljava/lang/Object;" = some ⟨[.int], some (.array (.object "java/lang/Object"))⟩ := by decide +kernel
theorem pf_19 : plainFor (⟨"java/util/ArrayList", "grow", "()[Ljava/lang/Object;"⟩ : MethodName) = true := plainFor_of_name (by first | (simp [plainName, overriddenIn]; done) | decide +kernel)
theorem d19_0 : decode jdk_38_method_7_code 0 = .ok (.aload_n 0, 1) := by decide +kernel
theorem d19_1 : decode jdk_38_method_7_code 1 = .ok (.aload_n 0, 1) := by decide +kernel
theorem d19_2 : decode jdk_38_method_7_code 2 = .ok (.getfield 48, 3) := by decide +kernel
theorem d19_5 : decode jdk_38_method_7_code 5 = .ok (.iconst 1, 1) := by decide +kernel
theorem d19_6 : decode jdk_38_method_7_code 6 = .ok (.iadd, 1) := by decide +kernel
theorem d19_7 : decode jdk_38_method_7_code 7 = .ok (.invokevirtual 69, 3) := by decide +kernel
theorem d19_10 : decode jdk_38_method_7_code 10 = .ok (.areturn, 1) := by decide +kernel
def Q_gr0 (Z : State) (r : Addr) (dc : Addr) (kd : ClassId) (mc : Int32) (h0 : Heap) (rv : Option Value) (h : Heap) (L : List Loc) : Prop := ∃ w : Addr, ∃ kw : ClassId, rv = some (.ref w) ∧ Fr Z.heap.size L ∧ Keep h0 h [r] ∧ h0.size ≤ w ∧ Fld Z h r "java/util/AbstractList" "modCount" "I" (.int mc) ∧ Fld Z h r "java/util/ArrayList" "elementData" "[Ljava/lang/Object;" (.ref w) ∧ Fld Z h r "java/util/ArrayList" "size" "I" (.int (0 : Int32)) ∧ Exa Z h w "[Ljava/lang/Object;" ∧ AL Z h w kw (.object "java/lang/Object") [.null, .null, .null, .null, .null, .null, .null, .null, .null, .null] ∧ (Ovr Z kw "java/lang/Object")
set_option maxRecDepth 65536 in
set_option maxHeartbeats 40000000 in
theorem rm_gr0 (l : Launch) (Z : State) (a0 : Array Value) (hw : ∀ d ∈ tables_1, d.before a0 Z = true) (r : Addr) (dc : Addr) (kd : ClassId) (mc : Int32) (h0 : Heap) (O0 : Ext Z.heap h0) (E0 : Exa Z h0 r "java/util/ArrayList") (F1 : Fld Z h0 r "java/util/AbstractList" "modCount" "I" (.int mc)) (F2 : Fld Z h0 r "java/util/ArrayList" "elementData" "[Ljava/lang/Object;" (.ref dc)) (F3 : Fld Z h0 r "java/util/ArrayList" "size" "I" (.int (0 : Int32))) (SD : Sta Z Z.heap "java/util/ArrayList" "DEFAULTCAPACITY_EMPTY_ELEMENTDATA" "[Ljava/lang/Object;" (.ref dc)) (AD : AL Z Z.heap dc kd (.object "java/lang/Object") []) (hn : Z.heap.size ≤ r) :
    Met1 l Z (⟨"java/util/ArrayList", "grow", "()[Ljava/lang/Object;"⟩ : MethodName) jdk_38_method_7_code 1 (some (.array (.object "java/lang/Object"))) ({ frames := 2, cells := 1, slots := 10, locals := 29 } : Room) #[(.ref r)] h0 (Q_gr0 Z r dc kd mc h0) := by
  refine Met1.of_body (Ls := #[.val (.ref r)]) pf_19 (fun m => by first | (simp [entryFrame, mkF, argsToLocals, Value.category]; done) | rfl) ?_
  intro p e s m below meth c T0 C X0 e0
  have N0 : Fr Z.heap.size [] := Fr.nil _
  refine Go.aloadN (pc' := 1) C X0 d19_0 rfl rfl rfl ?_
  refine Go.aloadN (pc' := 2) C X0 d19_1 rfl rfl rfl ?_
  refine Go.getF (pc' := 5) (host := "") C X0 (Or.inl (tw hw 109 rfl)) Via.refl e0 F3 d19_2 rfl ?_
  intro T101 X101 e101
  refine Go.iconst (z := (1 : Int32)) (pc' := 6) C X101 d19_5 rfl rfl ?_
  refine Go.iadd (pc' := 7) C X101 d19_6 rfl ?_
  rw [show ((0 : Int32) + (1 : Int32)) = (1 : Int32) from by decide]
  refine Go.callP (y := (⟨"java/util/ArrayList", "grow", "(I)[Ljava/lang/Object;"⟩ : MethodName)) (a := r) (pc' := 10) C X101 (tw hw 138 rfl) (tw hw 139 rfl) (tw hw 141 rfl) (tw hw 140 rfl) E0 (by decide) (rm_gr1 l Z a0 hw r dc kd mc h0 O0 E0 F1 F3 F2 SD AD hn) (tw hw 142 rfl) (tw hw 57 rfl) e101 (argsL := [(.int (1 : Int32))]) (rest := []) (W := 0) rfl rfl pd_5 rfl (Nat.le_of_eq rfl) rfl (by decide) (by decide) (by decide) (by decide) d19_7 rfl ?_
  intro T102 v102 L102 X102 q102
  obtain ⟨w_102, kw_102, rfl, N102q, K102, B102_0, P102_0, P102_1, P102_2, P102_3, P102_4, p102_0⟩ := q102
  have N102 := Fr.app N0 N102q
  have n_w_102 : Z.heap.size ≤ w_102 := Nat.le_trans O0.1 B102_0
  have z_w_102 : h0.size ≤ w_102 := Nat.le_trans (Nat.le_refl _) B102_0
  have K103 : Keep h0 T102.heap [r] := ((Keep.refl h0 [r]).trans K102 (allS (Or.inl (by simp)) all0))
  exact Go.retA C X102 rfl d19_10 rfl rfl rfl ⟨w_102, kw_102, rfl, N102, K103, z_w_102, P102_0, P102_1, P102_2, P102_3, P102_4, p102_0⟩ (by decide) (by decide)
theorem pd_6 : parseMethodDescriptor "()[Ljava/lang/Object;" = some ⟨[], some (.array (.object "java/lang/Object"))⟩ := by decide +kernel
theorem pf_18 : plainFor (⟨"java/util/ArrayList", "add", "(Ljava/lang/Object;[Ljava/lang/Object;I)V"⟩ : MethodName) = true := plainFor_of_name (by first | (simp [plainName, overriddenIn]; done) | decide +kernel)
theorem d18_0 : decode jdk_38_method_24_code 0 = .ok (.iload_n 3, 1) := by decide +kernel
theorem d18_1 : decode jdk_38_method_24_code 1 = .ok (.aload_n 2, 1) := by decide +kernel
theorem d18_2 : decode jdk_38_method_24_code 2 = .ok (.arraylength, 1) := by decide +kernel
theorem d18_3 : decode jdk_38_method_24_code 3 = .ok (.if_icmp .ne 8, 3) := by decide +kernel
theorem d18_6 : decode jdk_38_method_24_code 6 = .ok (.aload_n 0, 1) := by decide +kernel
theorem d18_7 : decode jdk_38_method_24_code 7 = .ok (.invokevirtual 129, 3) := by decide +kernel
theorem d18_10 : decode jdk_38_method_24_code 10 = .ok (.astore_n 2, 1) := by decide +kernel
theorem d18_11 : decode jdk_38_method_24_code 11 = .ok (.aload_n 2, 1) := by decide +kernel
theorem d18_12 : decode jdk_38_method_24_code 12 = .ok (.iload_n 3, 1) := by decide +kernel
theorem d18_13 : decode jdk_38_method_24_code 13 = .ok (.aload_n 1, 1) := by decide +kernel
theorem d18_14 : decode jdk_38_method_24_code 14 = .ok (.aastore, 1) := by decide +kernel
theorem d18_15 : decode jdk_38_method_24_code 15 = .ok (.aload_n 0, 1) := by decide +kernel
theorem d18_16 : decode jdk_38_method_24_code 16 = .ok (.iload_n 3, 1) := by decide +kernel
theorem d18_17 : decode jdk_38_method_24_code 17 = .ok (.iconst 1, 1) := by decide +kernel
theorem d18_18 : decode jdk_38_method_24_code 18 = .ok (.iadd, 1) := by decide +kernel
theorem d18_19 : decode jdk_38_method_24_code 19 = .ok (.putfield 48, 3) := by decide +kernel
theorem d18_22 : decode jdk_38_method_24_code 22 = .ok (.return_, 1) := by decide +kernel
def Q_ad0 (Z : State) (r : Addr) (d : Addr) (dc : Addr) (kd : ClassId) (mc : Int32) (h0 : Heap) (rv : Option Value) (h : Heap) (L : List Loc) : Prop := ∃ w : Addr, ∃ kw : ClassId, rv = none ∧ Fr Z.heap.size L ∧ Keep h0 h [r] ∧ h0.size ≤ w ∧ Fld Z h r "java/util/AbstractList" "modCount" "I" (.int mc) ∧ Fld Z h r "java/util/ArrayList" "elementData" "[Ljava/lang/Object;" (.ref w) ∧ Fld Z h r "java/util/ArrayList" "size" "I" (.int (1 : Int32)) ∧ AL Z h w kw (.object "java/lang/Object") [(.ref d), .null, .null, .null, .null, .null, .null, .null, .null, .null] ∧ Exa Z h w "[Ljava/lang/Object;" ∧ (Ovr Z kw "java/lang/Object")
set_option maxRecDepth 65536 in
set_option maxHeartbeats 40000000 in
theorem rm_ad0 (l : Launch) (Z : State) (a0 : Array Value) (hw : ∀ d ∈ tables_1, d.before a0 Z = true) (r : Addr) (d : Addr) (dc : Addr) (kd : ClassId) (mc : Int32) (h0 : Heap) (O0 : Ext Z.heap h0) (E0 : Exa Z h0 r "java/util/ArrayList") (Ed : Exa Z h0 d "com/example/tranche/tranche/journal/DefaultRateChange") (F1 : Fld Z h0 r "java/util/AbstractList" "modCount" "I" (.int mc)) (F2 : Fld Z h0 r "java/util/ArrayList" "elementData" "[Ljava/lang/Object;" (.ref dc)) (F3 : Fld Z h0 r "java/util/ArrayList" "size" "I" (.int (0 : Int32))) (SD : Sta Z Z.heap "java/util/ArrayList" "DEFAULTCAPACITY_EMPTY_ELEMENTDATA" "[Ljava/lang/Object;" (.ref dc)) (AD : AL Z Z.heap dc kd (.object "java/lang/Object") []) (hn : Z.heap.size ≤ r) :
    Met1 l Z (⟨"java/util/ArrayList", "add", "(Ljava/lang/Object;[Ljava/lang/Object;I)V"⟩ : MethodName) jdk_38_method_24_code 4 none ({ frames := 3, cells := 1, slots := 10, locals := 41 } : Room) #[(.ref r), (.ref d), (.ref dc), (.int (0 : Int32))] h0 (Q_ad0 Z r d dc kd mc h0) := by
  refine Met1.of_body (Ls := #[.val (.ref r), .val (.ref d), .val (.ref dc), .val (.int (0 : Int32))]) pf_18 (fun m => by first | (simp [entryFrame, mkF, argsToLocals, Value.category]; done) | rfl) ?_
  intro p e s m below meth c T0 C X0 e0
  have N0 : Fr Z.heap.size [] := Fr.nil _
  refine Go.iloadN (pc' := 1) C X0 d18_0 rfl rfl ?_
  refine Go.aloadN (pc' := 2) C X0 d18_1 rfl rfl rfl ?_
  refine Go.alen (z := (0 : Int32)) (pc' := 3) C X0 e0 (AD.ext O0) rfl d18_2 rfl ?_
  refine Go.icmpNo (pc' := 6) C X0 d18_3 (teq (x := (0 : Int32)) (y := (0 : Int32)) (by decide)).2 rfl ?_
  refine Go.aloadN (pc' := 7) C X0 d18_6 rfl rfl rfl ?_
  refine Go.callP (y := (⟨"java/util/ArrayList", "grow", "()[Ljava/lang/Object;"⟩ : MethodName)) (a := r) (pc' := 10) C X0 (tw hw 133 rfl) (tw hw 134 rfl) (tw hw 136 rfl) (tw hw 135 rfl) E0 (by decide) (rm_gr0 l Z a0 hw r dc kd mc h0 O0 E0 F1 F2 F3 SD AD hn) (tw hw 137 rfl) (tw hw 57 rfl) e0 (argsL := []) (rest := []) (W := 0) rfl rfl pd_6 rfl (Nat.le_of_eq rfl) rfl (by decide) (by decide) (by decide) (by decide) d18_7 rfl ?_
  intro T102 v102 L102 X102 q102
  obtain ⟨w_102, kw_102, rfl, N102q, K102, B102_0, P102_0, P102_1, P102_2, P102_3, P102_4, p102_0⟩ := q102
  have N102 := Fr.app N0 N102q
  have n_w_102 : Z.heap.size ≤ w_102 := Nat.le_trans O0.1 B102_0
  have z_w_102 : h0.size ≤ w_102 := Nat.le_trans (Nat.le_refl _) B102_0
  refine Go.astoreN (Ls' := #[.val (.ref r), .val (.ref d), .val (.ref w_102), .val (.int (0 : Int32))]) (pc' := 11) C X102 d18_10 rfl rfl rfl ?_
  refine Go.aloadN (pc' := 12) C X102 d18_11 rfl rfl rfl ?_
  refine Go.iloadN (pc' := 13) C X102 d18_12 rfl rfl ?_
  refine Go.aloadN (pc' := 14) C X102 d18_13 rfl rfl rfl ?_
  have c104 : Exa Z T102.heap d "com/example/tranche/tranche/journal/DefaultRateChange" := (Exa.keep Ed K102)
  refine Go.stR (i := 0) (vs' := [(.ref d), .null, .null, .null, .null, .null, .null, .null, .null, .null]) (pc' := 15) C X102 rfl P102_4 (by decide) (by decide) (by simp) rfl (AL.sto P102_4 p102_0 (Ins.of_exa c104 (tw hw 149 rfl))) rfl d18_14 rfl ?_
  intro T103 h103 X103 e103 W103 A103
  have N103 := Fr.snoc X103 N102 n_w_102
  refine Go.aloadN (pc' := 16) C X103 d18_15 rfl rfl rfl ?_
  refine Go.iloadN (pc' := 17) C X103 d18_16 rfl rfl ?_
  refine Go.iconst (z := (1 : Int32)) (pc' := 18) C X103 d18_17 rfl rfl ?_
  refine Go.iadd (pc' := 19) C X103 d18_18 rfl ?_
  rw [show ((0 : Int32) + (1 : Int32)) = (1 : Int32) from by decide]
  have ne106 : r ≠ w_102 := Nat.ne_of_lt (Nat.lt_of_lt_of_le E0.lt (Nat.le_trans (Nat.le_refl _) B102_0))
  have c107 : Fld Z h103 r "java/util/ArrayList" "size" "I" (.int (0 : Int32)) := (Fld.other W103 P102_2 (Or.inl ne106))
  have c108 : Exa Z h103 r "java/util/ArrayList" := (Exa.wr W103 (Exa.keep E0 K102))
  refine Go.putF (pc' := 22) (host := "") (ty := .int) C X103 (Or.inl (tw hw 109 rfl)) Via.refl e103 c107 c108 (Or.inl (tw hw 110 rfl)) (tw hw 56 rfl) (by decide) rfl rfl d18_19 rfl ?_
  intro T105 h105 X105 e105 W105 F105
  have N105 := Fr.snoc X105 N103 hn
  have K109 : Keep h0 h105 [r] := ((((Keep.refl h0 [r]).trans K102 (allS (Or.inl (by simp)) all0)).wr W103 (Or.inr z_w_102)).wr W105 (Or.inl (by simp)))
  have c110 : Fld Z h105 r "java/util/AbstractList" "modCount" "I" (.int mc) := (Fld.other W105 (Fld.other W103 P102_0 (Or.inl ne106)) (Or.inr (slot_ne (Or.inl (tw hw 75 rfl)) (Or.inl (tw hw 110 rfl)) (by decide) (t := .int) (t' := .int) (by decide) (by decide))))
  have c111 : Fld Z h105 r "java/util/ArrayList" "elementData" "[Ljava/lang/Object;" (.ref w_102) := (Fld.other W105 (Fld.other W103 P102_1 (Or.inl ne106)) (Or.inr (slot_ne (Or.inl (tw hw 78 rfl)) (Or.inl (tw hw 110 rfl)) (by decide) (t := (.array (.object "java/lang/Object"))) (t' := .int) (by decide) (by decide))))
  have c112 : AL Z h105 w_102 kw_102 (.object "java/lang/Object") [(.ref d), .null, .null, .null, .null, .null, .null, .null, .null, .null] := (AL.other W105 A103 (Ne.symm ne106))
  have c113 : Exa Z h105 w_102 "[Ljava/lang/Object;" := (Exa.wr W105 (Exa.wr W103 P102_3))
  exact Go.retV C X105 rfl d18_22 (by rw [e105]; exact ⟨w_102, kw_102, rfl, N105, K109, z_w_102, c110, c111, F105, c112, c113, p102_0⟩) (by decide) (by decide)
theorem pd_7 : parseMethodDescriptor "(Ljava/lang/Object;[Ljava/lang/Object;I)V" = some ⟨[(.object "java/lang/Object"), (.array (.object "java/lang/Object")), .int], none⟩ := by decide +kernel
theorem pf_17 : plainFor (⟨"java/util/ArrayList", "add", "(Ljava/lang/Object;)Z"⟩ : MethodName) = true := plainFor_of_name (by first | (simp [plainName, overriddenIn]; done) | decide +kernel)
theorem d17_0 : decode jdk_38_method_25_code 0 = .ok (.aload_n 0, 1) := by decide +kernel
theorem d17_1 : decode jdk_38_method_25_code 1 = .ok (.dup, 1) := by decide +kernel
theorem d17_2 : decode jdk_38_method_25_code 2 = .ok (.getfield 63, 3) := by decide +kernel
theorem d17_5 : decode jdk_38_method_25_code 5 = .ok (.iconst 1, 1) := by decide +kernel
theorem d17_6 : decode jdk_38_method_25_code 6 = .ok (.iadd, 1) := by decide +kernel
theorem d17_7 : decode jdk_38_method_25_code 7 = .ok (.putfield 63, 3) := by decide +kernel
theorem d17_10 : decode jdk_38_method_25_code 10 = .ok (.aload_n 0, 1) := by decide +kernel
theorem d17_11 : decode jdk_38_method_25_code 11 = .ok (.aload_n 1, 1) := by decide +kernel
theorem d17_12 : decode jdk_38_method_25_code 12 = .ok (.aload_n 0, 1) := by decide +kernel
theorem d17_13 : decode jdk_38_method_25_code 13 = .ok (.getfield 9, 3) := by decide +kernel
theorem d17_16 : decode jdk_38_method_25_code 16 = .ok (.aload_n 0, 1) := by decide +kernel
theorem d17_17 : decode jdk_38_method_25_code 17 = .ok (.getfield 48, 3) := by decide +kernel
theorem d17_20 : decode jdk_38_method_25_code 20 = .ok (.invokevirtual 131, 3) := by decide +kernel
theorem d17_23 : decode jdk_38_method_25_code 23 = .ok (.iconst 1, 1) := by decide +kernel
theorem d17_24 : decode jdk_38_method_25_code 24 = .ok (.ireturn, 1) := by decide +kernel
def Q_add0 (Z : State) (r : Addr) (d : Addr) (dc : Addr) (kd : ClassId) (mc : Int32) (h0 : Heap) (rv : Option Value) (h : Heap) (L : List Loc) : Prop := ∃ w : Addr, ∃ kw : ClassId, rv = some (.int (1 : Int32)) ∧ Fr Z.heap.size L ∧ Keep h0 h [r] ∧ h0.size ≤ w ∧ Fld Z h r "java/util/AbstractList" "modCount" "I" (.int (mc + (1 : Int32))) ∧ Fld Z h r "java/util/ArrayList" "elementData" "[Ljava/lang/Object;" (.ref w) ∧ Fld Z h r "java/util/ArrayList" "size" "I" (.int (1 : Int32)) ∧ AL Z h w kw (.object "java/lang/Object") [(.ref d), .null, .null, .null, .null, .null, .null, .null, .null, .null] ∧ Exa Z h w "[Ljava/lang/Object;" ∧ (Ovr Z kw "java/lang/Object")
set_option maxRecDepth 65536 in
set_option maxHeartbeats 40000000 in
theorem rm_add0 (l : Launch) (Z : State) (a0 : Array Value) (hw : ∀ d ∈ tables_1, d.before a0 Z = true) (r : Addr) (d : Addr) (dc : Addr) (kd : ClassId) (mc : Int32) (h0 : Heap) (O0 : Ext Z.heap h0) (E0 : Exa Z h0 r "java/util/ArrayList") (Ed : Exa Z h0 d "com/example/tranche/tranche/journal/DefaultRateChange") (F1 : Fld Z h0 r "java/util/AbstractList" "modCount" "I" (.int mc)) (F2 : Fld Z h0 r "java/util/ArrayList" "elementData" "[Ljava/lang/Object;" (.ref dc)) (F3 : Fld Z h0 r "java/util/ArrayList" "size" "I" (.int (0 : Int32))) (SD : Sta Z Z.heap "java/util/ArrayList" "DEFAULTCAPACITY_EMPTY_ELEMENTDATA" "[Ljava/lang/Object;" (.ref dc)) (AD : AL Z Z.heap dc kd (.object "java/lang/Object") []) (hn : Z.heap.size ≤ r) :
    Met1 l Z (⟨"java/util/ArrayList", "add", "(Ljava/lang/Object;)Z"⟩ : MethodName) jdk_38_method_25_code 2 (some .boolean) ({ frames := 4, cells := 1, slots := 10, locals := 56 } : Room) #[(.ref r), (.ref d)] h0 (Q_add0 Z r d dc kd mc h0) := by
  refine Met1.of_body (Ls := #[.val (.ref r), .val (.ref d)]) pf_17 (fun m => by first | (simp [entryFrame, mkF, argsToLocals, Value.category]; done) | rfl) ?_
  intro p e s m below meth c T0 C X0 e0
  have N0 : Fr Z.heap.size [] := Fr.nil _
  refine Go.aloadN (pc' := 1) C X0 d17_0 rfl rfl rfl ?_
  refine Go.dup (pc' := 2) C X0 d17_1 rfl rfl ?_
  refine Go.getF (pc' := 5) (host := "") C X0 (Or.inl (tw hw 126 rfl)) (Via.of (tw hw 127 rfl)) e0 F1 d17_2 rfl ?_
  intro T101 X101 e101
  refine Go.iconst (z := (1 : Int32)) (pc' := 6) C X101 d17_5 rfl rfl ?_
  refine Go.iadd (pc' := 7) C X101 d17_6 rfl ?_
  refine Go.putF (pc' := 10) (host := "") (ty := .int) C X101 (Or.inl (tw hw 126 rfl)) (Via.of (tw hw 127 rfl)) e101 F1 E0 (Or.inl (tw hw 75 rfl)) (tw hw 56 rfl) (by decide) rfl rfl d17_7 rfl ?_
  intro T102 h102 X102 e102 W102 F102
  have N102 := Fr.snoc X102 N0 hn
  refine Go.aloadN (pc' := 11) C X102 d17_10 rfl rfl rfl ?_
  refine Go.aloadN (pc' := 12) C X102 d17_11 rfl rfl rfl ?_
  refine Go.aloadN (pc' := 13) C X102 d17_12 rfl rfl rfl ?_
  have c104 : Fld Z h102 r "java/util/ArrayList" "elementData" "[Ljava/lang/Object;" (.ref dc) := (Fld.other W102 F2 (Or.inr (slot_ne (Or.inl (tw hw 78 rfl)) (Or.inl (tw hw 75 rfl)) (by decide) (t := (.array (.object "java/lang/Object"))) (t' := .int) (by decide) (by decide))))
  refine Go.getF (pc' := 16) (host := "") C X102 (Or.inl (tw hw 77 rfl)) Via.refl e102 c104 d17_13 rfl ?_
  intro T103 X103 e103
  refine Go.aloadN (pc' := 17) C X103 d17_16 rfl rfl rfl ?_
  have c106 : Fld Z h102 r "java/util/ArrayList" "size" "I" (.int (0 : Int32)) := (Fld.other W102 F3 (Or.inr (slot_ne (Or.inl (tw hw 110 rfl)) (Or.inl (tw hw 75 rfl)) (by decide) (t := .int) (t' := .int) (by decide) (by decide))))
  refine Go.getF (pc' := 20) (host := "") C X103 (Or.inl (tw hw 109 rfl)) Via.refl e103 c106 d17_17 rfl ?_
  intro T105 X105 e105
  have c108 : Exa Z h102 r "java/util/ArrayList" := (Exa.wr W102 E0)
  have c109 : Exa Z h102 d "com/example/tranche/tranche/journal/DefaultRateChange" := (Exa.wr W102 Ed)
  have O110 : Ext Z.heap h102 := (Ext.wr O0 W102 hn)
  refine Go.callP (y := (⟨"java/util/ArrayList", "add", "(Ljava/lang/Object;[Ljava/lang/Object;I)V"⟩ : MethodName)) (a := r) (pc' := 23) C X105 (tw hw 128 rfl) (tw hw 129 rfl) (tw hw 131 rfl) (tw hw 130 rfl) c108 (by decide) (rm_ad0 l Z a0 hw r d dc kd ((mc + (1 : Int32))) h102 O110 c108 c109 F102 c104 c106 SD AD hn) (tw hw 132 rfl) (tw hw 57 rfl) e105 (argsL := [(.ref d), (.ref dc), (.int (0 : Int32))]) (rest := []) (W := 0) rfl rfl pd_7 rfl (Nat.le_of_eq rfl) rfl (by decide) (by decide) (by decide) (by decide) d17_20 rfl ?_
  intro T107 v107 L107 X107 q107
  obtain ⟨w_107, kw_107, rfl, N107q, K107, B107_0, P107_0, P107_1, P107_2, P107_3, P107_4, p107_0⟩ := q107
  have N107 := Fr.app N102 N107q
  have n_w_107 : Z.heap.size ≤ w_107 := Nat.le_trans O110.1 B107_0
  have z_w_107 : h0.size ≤ w_107 := Nat.le_trans (Nat.le_trans (Nat.le_refl _) (Nat.le_of_eq W102.size.symm)) B107_0
  refine Go.iconst (z := (1 : Int32)) (pc' := 24) C X107 d17_23 rfl rfl ?_
  have K111 : Keep h0 T107.heap [r] := (((Keep.refl h0 [r]).wr W102 (Or.inl (by simp))).trans K107 (allS (Or.inl (by simp)) all0))
  exact Go.retN C X107 rfl d17_24 (by simp) ⟨w_107, kw_107, rfl, N107, K111, z_w_107, P107_0, P107_1, P107_2, P107_3, P107_4, p107_0⟩ (by decide) (by decide)
def Q_ad1 (Z : State) (r : Addr) (d : Addr) (w : Addr) (kw : ClassId) (mc : Int32) (h0 : Heap) (rv : Option Value) (h : Heap) (L : List Loc) : Prop := rv = none ∧ Fr Z.heap.size L ∧ Keep h0 h [r, w] ∧ Fld Z h r "java/util/AbstractList" "modCount" "I" (.int mc) ∧ Fld Z h r "java/util/ArrayList" "elementData" "[Ljava/lang/Object;" (.ref w) ∧ Fld Z h r "java/util/ArrayList" "size" "I" (.int (2 : Int32)) ∧ AL Z h w kw (.object "java/lang/Object") [(.ref d), (.ref d), .null, .null, .null, .null, .null, .null, .null, .null]
set_option maxRecDepth 65536 in
set_option maxHeartbeats 40000000 in
theorem rm_ad1 (l : Launch) (Z : State) (a0 : Array Value) (hw : ∀ d ∈ tables_1, d.before a0 Z = true) (r : Addr) (d : Addr) (w : Addr) (kw : ClassId) (mc : Int32) (h0 : Heap) (O0 : Ext Z.heap h0) (E0 : Exa Z h0 r "java/util/ArrayList") (Ed : Exa Z h0 d "com/example/tranche/tranche/journal/DefaultRateChange") (F1 : Fld Z h0 r "java/util/AbstractList" "modCount" "I" (.int mc)) (F2 : Fld Z h0 r "java/util/ArrayList" "elementData" "[Ljava/lang/Object;" (.ref w)) (F3 : Fld Z h0 r "java/util/ArrayList" "size" "I" (.int (1 : Int32))) (Ew : Exa Z h0 w "[Ljava/lang/Object;") (Aw : AL Z h0 w kw (.object "java/lang/Object") [(.ref d), .null, .null, .null, .null, .null, .null, .null, .null, .null]) (hn : Z.heap.size ≤ r) (hnw : Z.heap.size ≤ w) (ho : Ovr Z kw "java/lang/Object") :
    Met1 l Z (⟨"java/util/ArrayList", "add", "(Ljava/lang/Object;[Ljava/lang/Object;I)V"⟩ : MethodName) jdk_38_method_24_code 4 none ({ frames := 0, cells := 0, slots := 0, locals := 0 } : Room) #[(.ref r), (.ref d), (.ref w), (.int (1 : Int32))] h0 (Q_ad1 Z r d w kw mc h0) := by
  refine Met1.of_body (Ls := #[.val (.ref r), .val (.ref d), .val (.ref w), .val (.int (1 : Int32))]) pf_18 (fun m => by first | (simp [entryFrame, mkF, argsToLocals, Value.category]; done) | rfl) ?_
  intro p e s m below meth c T0 C X0 e0
  have N0 : Fr Z.heap.size [] := Fr.nil _
  refine Go.iloadN (pc' := 1) C X0 d18_0 rfl rfl ?_
  refine Go.aloadN (pc' := 2) C X0 d18_1 rfl rfl rfl ?_
  refine Go.alen (z := (10 : Int32)) (pc' := 3) C X0 e0 Aw rfl d18_2 rfl ?_
  refine Go.icmpYes (pc' := 11) C X0 d18_3 (feq (x := (1 : Int32)) (y := (10 : Int32)) (by decide)).2 (by decide) (by decide) ?_
  refine Go.aloadN (pc' := 12) C X0 d18_11 rfl rfl rfl ?_
  refine Go.iloadN (pc' := 13) C X0 d18_12 rfl rfl ?_
  refine Go.aloadN (pc' := 14) C X0 d18_13 rfl rfl rfl ?_
  refine Go.stR (i := 1) (vs' := [(.ref d), (.ref d), .null, .null, .null, .null, .null, .null, .null, .null]) (pc' := 15) C X0 e0 Aw (by decide) (by decide) (by simp) rfl (AL.sto Aw ho (Ins.of_exa Ed (tw hw 149 rfl))) rfl d18_14 rfl ?_
  intro T102 h102 X102 e102 W102 A102
  have N102 := Fr.snoc X102 N0 hnw
  refine Go.aloadN (pc' := 16) C X102 d18_15 rfl rfl rfl ?_
  refine Go.iloadN (pc' := 17) C X102 d18_16 rfl rfl ?_
  refine Go.iconst (z := (1 : Int32)) (pc' := 18) C X102 d18_17 rfl rfl ?_
  refine Go.iadd (pc' := 19) C X102 d18_18 rfl ?_
  rw [show ((1 : Int32) + (1 : Int32)) = (2 : Int32) from by decide]
  have c104 : Exa Z h102 r "java/util/ArrayList" := (Exa.wr W102 E0)
  have c105 : Exa Z h102 w "[Ljava/lang/Object;" := (Exa.wr W102 Ew)
  have ne106 : r ≠ w := ne_exa c104 c105 (by decide)
  have c107 : Fld Z h102 r "java/util/ArrayList" "size" "I" (.int (1 : Int32)) := (Fld.other W102 F3 (Or.inl ne106))
  refine Go.putF (pc' := 22) (host := "") (ty := .int) C X102 (Or.inl (tw hw 109 rfl)) Via.refl e102 c107 c104 (Or.inl (tw hw 110 rfl)) (tw hw 56 rfl) (by decide) rfl rfl d18_19 rfl ?_
  intro T103 h103 X103 e103 W103 F103
  have N103 := Fr.snoc X103 N102 hn
  have K108 : Keep h0 h103 [r, w] := (((Keep.refl h0 [r, w]).wr W102 (Or.inl (by simp))).wr W103 (Or.inl (by simp)))
  have c109 : Fld Z h103 r "java/util/AbstractList" "modCount" "I" (.int mc) := (Fld.other W103 (Fld.other W102 F1 (Or.inl ne106)) (Or.inr (slot_ne (Or.inl (tw hw 75 rfl)) (Or.inl (tw hw 110 rfl)) (by decide) (t := .int) (t' := .int) (by decide) (by decide))))
  have c110 : Fld Z h103 r "java/util/ArrayList" "elementData" "[Ljava/lang/Object;" (.ref w) := (Fld.other W103 (Fld.other W102 F2 (Or.inl ne106)) (Or.inr (slot_ne (Or.inl (tw hw 78 rfl)) (Or.inl (tw hw 110 rfl)) (by decide) (t := (.array (.object "java/lang/Object"))) (t' := .int) (by decide) (by decide))))
  have c111 : AL Z h103 w kw (.object "java/lang/Object") [(.ref d), (.ref d), .null, .null, .null, .null, .null, .null, .null, .null] := (AL.other W103 A102 (Ne.symm ne106))
  exact Go.retV C X103 rfl d18_22 (by rw [e103]; exact ⟨rfl, N103, K108, c109, c110, F103, c111⟩) (by decide) (by decide)
def Q_add1 (Z : State) (r : Addr) (d : Addr) (w : Addr) (kw : ClassId) (mc : Int32) (h0 : Heap) (rv : Option Value) (h : Heap) (L : List Loc) : Prop := rv = some (.int (1 : Int32)) ∧ Fr Z.heap.size L ∧ Keep h0 h [r, w] ∧ Fld Z h r "java/util/AbstractList" "modCount" "I" (.int (mc + (1 : Int32))) ∧ Fld Z h r "java/util/ArrayList" "elementData" "[Ljava/lang/Object;" (.ref w) ∧ Fld Z h r "java/util/ArrayList" "size" "I" (.int (2 : Int32)) ∧ AL Z h w kw (.object "java/lang/Object") [(.ref d), (.ref d), .null, .null, .null, .null, .null, .null, .null, .null]
set_option maxRecDepth 65536 in
set_option maxHeartbeats 40000000 in
theorem rm_add1 (l : Launch) (Z : State) (a0 : Array Value) (hw : ∀ d ∈ tables_1, d.before a0 Z = true) (r : Addr) (d : Addr) (w : Addr) (kw : ClassId) (mc : Int32) (h0 : Heap) (O0 : Ext Z.heap h0) (E0 : Exa Z h0 r "java/util/ArrayList") (Ed : Exa Z h0 d "com/example/tranche/tranche/journal/DefaultRateChange") (F1 : Fld Z h0 r "java/util/AbstractList" "modCount" "I" (.int mc)) (F2 : Fld Z h0 r "java/util/ArrayList" "elementData" "[Ljava/lang/Object;" (.ref w)) (F3 : Fld Z h0 r "java/util/ArrayList" "size" "I" (.int (1 : Int32))) (Ew : Exa Z h0 w "[Ljava/lang/Object;") (Aw : AL Z h0 w kw (.object "java/lang/Object") [(.ref d), .null, .null, .null, .null, .null, .null, .null, .null, .null]) (hn : Z.heap.size ≤ r) (hnw : Z.heap.size ≤ w) (ho : Ovr Z kw "java/lang/Object") :
    Met1 l Z (⟨"java/util/ArrayList", "add", "(Ljava/lang/Object;)Z"⟩ : MethodName) jdk_38_method_25_code 2 (some .boolean) ({ frames := 1, cells := 0, slots := 0, locals := 15 } : Room) #[(.ref r), (.ref d)] h0 (Q_add1 Z r d w kw mc h0) := by
  refine Met1.of_body (Ls := #[.val (.ref r), .val (.ref d)]) pf_17 (fun m => by first | (simp [entryFrame, mkF, argsToLocals, Value.category]; done) | rfl) ?_
  intro p e s m below meth c T0 C X0 e0
  have N0 : Fr Z.heap.size [] := Fr.nil _
  refine Go.aloadN (pc' := 1) C X0 d17_0 rfl rfl rfl ?_
  refine Go.dup (pc' := 2) C X0 d17_1 rfl rfl ?_
  refine Go.getF (pc' := 5) (host := "") C X0 (Or.inl (tw hw 126 rfl)) (Via.of (tw hw 127 rfl)) e0 F1 d17_2 rfl ?_
  intro T101 X101 e101
  refine Go.iconst (z := (1 : Int32)) (pc' := 6) C X101 d17_5 rfl rfl ?_
  refine Go.iadd (pc' := 7) C X101 d17_6 rfl ?_
  refine Go.putF (pc' := 10) (host := "") (ty := .int) C X101 (Or.inl (tw hw 126 rfl)) (Via.of (tw hw 127 rfl)) e101 F1 E0 (Or.inl (tw hw 75 rfl)) (tw hw 56 rfl) (by decide) rfl rfl d17_7 rfl ?_
  intro T102 h102 X102 e102 W102 F102
  have N102 := Fr.snoc X102 N0 hn
  refine Go.aloadN (pc' := 11) C X102 d17_10 rfl rfl rfl ?_
  refine Go.aloadN (pc' := 12) C X102 d17_11 rfl rfl rfl ?_
  refine Go.aloadN (pc' := 13) C X102 d17_12 rfl rfl rfl ?_
  have c104 : Fld Z h102 r "java/util/ArrayList" "elementData" "[Ljava/lang/Object;" (.ref w) := (Fld.other W102 F2 (Or.inr (slot_ne (Or.inl (tw hw 78 rfl)) (Or.inl (tw hw 75 rfl)) (by decide) (t := (.array (.object "java/lang/Object"))) (t' := .int) (by decide) (by decide))))
  refine Go.getF (pc' := 16) (host := "") C X102 (Or.inl (tw hw 77 rfl)) Via.refl e102 c104 d17_13 rfl ?_
  intro T103 X103 e103
  refine Go.aloadN (pc' := 17) C X103 d17_16 rfl rfl rfl ?_
  have c106 : Fld Z h102 r "java/util/ArrayList" "size" "I" (.int (1 : Int32)) := (Fld.other W102 F3 (Or.inr (slot_ne (Or.inl (tw hw 110 rfl)) (Or.inl (tw hw 75 rfl)) (by decide) (t := .int) (t' := .int) (by decide) (by decide))))
  refine Go.getF (pc' := 20) (host := "") C X103 (Or.inl (tw hw 109 rfl)) Via.refl e103 c106 d17_17 rfl ?_
  intro T105 X105 e105
  have c108 : Exa Z h102 r "java/util/ArrayList" := (Exa.wr W102 E0)
  have c109 : Exa Z h102 d "com/example/tranche/tranche/journal/DefaultRateChange" := (Exa.wr W102 Ed)
  have c110 : Exa Z h102 w "[Ljava/lang/Object;" := (Exa.wr W102 Ew)
  have ne111 : w ≠ r := ne_exa c110 c108 (by decide)
  have c112 : AL Z h102 w kw (.object "java/lang/Object") [(.ref d), .null, .null, .null, .null, .null, .null, .null, .null, .null] := (AL.other W102 Aw ne111)
  have O113 : Ext Z.heap h102 := (Ext.wr O0 W102 hn)
  refine Go.callP (y := (⟨"java/util/ArrayList", "add", "(Ljava/lang/Object;[Ljava/lang/Object;I)V"⟩ : MethodName)) (a := r) (pc' := 23) C X105 (tw hw 128 rfl) (tw hw 129 rfl) (tw hw 131 rfl) (tw hw 130 rfl) c108 (by decide) (rm_ad1 l Z a0 hw r d w kw ((mc + (1 : Int32))) h102 O113 c108 c109 F102 c104 c106 c110 c112 hn hnw ho) (tw hw 132 rfl) (tw hw 57 rfl) e105 (argsL := [(.ref d), (.ref w), (.int (1 : Int32))]) (rest := []) (W := 0) rfl rfl pd_7 rfl (Nat.le_of_eq rfl) rfl (by decide) (by decide) (by decide) (by decide) d17_20 rfl ?_
  intro T107 v107 L107 X107 q107
  obtain ⟨rfl, N107q, K107, P107_0, P107_1, P107_2, P107_3⟩ := q107
  have N107 := Fr.app N102 N107q
  refine Go.iconst (z := (1 : Int32)) (pc' := 24) C X107 d17_23 rfl rfl ?_
  have K114 : Keep h0 T107.heap [r, w] := (((Keep.refl h0 [r, w]).wr W102 (Or.inl (by simp))).trans K107 (allS (Or.inl (by simp)) (allS (Or.inl (by simp)) all0)))
  exact Go.retN C X107 rfl d17_24 (by simp) ⟨rfl, N107, K114, P107_0, P107_1, P107_2, P107_3⟩ (by decide) (by decide)
def Q_ad2 (Z : State) (r : Addr) (d : Addr) (w : Addr) (kw : ClassId) (mc : Int32) (h0 : Heap) (rv : Option Value) (h : Heap) (L : List Loc) : Prop := rv = none ∧ Fr Z.heap.size L ∧ Keep h0 h [r, w] ∧ Fld Z h r "java/util/AbstractList" "modCount" "I" (.int mc) ∧ Fld Z h r "java/util/ArrayList" "elementData" "[Ljava/lang/Object;" (.ref w) ∧ Fld Z h r "java/util/ArrayList" "size" "I" (.int (3 : Int32)) ∧ AL Z h w kw (.object "java/lang/Object") [(.ref d), (.ref d), (.ref d), .null, .null, .null, .null, .null, .null, .null]
set_option maxRecDepth 65536 in
set_option maxHeartbeats 40000000 in
theorem rm_ad2 (l : Launch) (Z : State) (a0 : Array Value) (hw : ∀ d ∈ tables_1, d.before a0 Z = true) (r : Addr) (d : Addr) (w : Addr) (kw : ClassId) (mc : Int32) (h0 : Heap) (O0 : Ext Z.heap h0) (E0 : Exa Z h0 r "java/util/ArrayList") (Ed : Exa Z h0 d "com/example/tranche/tranche/journal/DefaultRateChange") (F1 : Fld Z h0 r "java/util/AbstractList" "modCount" "I" (.int mc)) (F2 : Fld Z h0 r "java/util/ArrayList" "elementData" "[Ljava/lang/Object;" (.ref w)) (F3 : Fld Z h0 r "java/util/ArrayList" "size" "I" (.int (2 : Int32))) (Ew : Exa Z h0 w "[Ljava/lang/Object;") (Aw : AL Z h0 w kw (.object "java/lang/Object") [(.ref d), (.ref d), .null, .null, .null, .null, .null, .null, .null, .null]) (hn : Z.heap.size ≤ r) (hnw : Z.heap.size ≤ w) (ho : Ovr Z kw "java/lang/Object") :
    Met1 l Z (⟨"java/util/ArrayList", "add", "(Ljava/lang/Object;[Ljava/lang/Object;I)V"⟩ : MethodName) jdk_38_method_24_code 4 none ({ frames := 0, cells := 0, slots := 0, locals := 0 } : Room) #[(.ref r), (.ref d), (.ref w), (.int (2 : Int32))] h0 (Q_ad2 Z r d w kw mc h0) := by
  refine Met1.of_body (Ls := #[.val (.ref r), .val (.ref d), .val (.ref w), .val (.int (2 : Int32))]) pf_18 (fun m => by first | (simp [entryFrame, mkF, argsToLocals, Value.category]; done) | rfl) ?_
  intro p e s m below meth c T0 C X0 e0
  have N0 : Fr Z.heap.size [] := Fr.nil _
  refine Go.iloadN (pc' := 1) C X0 d18_0 rfl rfl ?_
  refine Go.aloadN (pc' := 2) C X0 d18_1 rfl rfl rfl ?_
  refine Go.alen (z := (10 : Int32)) (pc' := 3) C X0 e0 Aw rfl d18_2 rfl ?_
  refine Go.icmpYes (pc' := 11) C X0 d18_3 (feq (x := (2 : Int32)) (y := (10 : Int32)) (by decide)).2 (by decide) (by decide) ?_
  refine Go.aloadN (pc' := 12) C X0 d18_11 rfl rfl rfl ?_
  refine Go.iloadN (pc' := 13) C X0 d18_12 rfl rfl ?_
  refine Go.aloadN (pc' := 14) C X0 d18_13 rfl rfl rfl ?_
  refine Go.stR (i := 2) (vs' := [(.ref d), (.ref d), (.ref d), .null, .null, .null, .null, .null, .null, .null]) (pc' := 15) C X0 e0 Aw (by decide) (by decide) (by simp) rfl (AL.sto Aw ho (Ins.of_exa Ed (tw hw 149 rfl))) rfl d18_14 rfl ?_
  intro T102 h102 X102 e102 W102 A102
  have N102 := Fr.snoc X102 N0 hnw
  refine Go.aloadN (pc' := 16) C X102 d18_15 rfl rfl rfl ?_
  refine Go.iloadN (pc' := 17) C X102 d18_16 rfl rfl ?_
  refine Go.iconst (z := (1 : Int32)) (pc' := 18) C X102 d18_17 rfl rfl ?_
  refine Go.iadd (pc' := 19) C X102 d18_18 rfl ?_
  rw [show ((2 : Int32) + (1 : Int32)) = (3 : Int32) from by decide]
  have c104 : Exa Z h102 r "java/util/ArrayList" := (Exa.wr W102 E0)
  have c105 : Exa Z h102 w "[Ljava/lang/Object;" := (Exa.wr W102 Ew)
  have ne106 : r ≠ w := ne_exa c104 c105 (by decide)
  have c107 : Fld Z h102 r "java/util/ArrayList" "size" "I" (.int (2 : Int32)) := (Fld.other W102 F3 (Or.inl ne106))
  refine Go.putF (pc' := 22) (host := "") (ty := .int) C X102 (Or.inl (tw hw 109 rfl)) Via.refl e102 c107 c104 (Or.inl (tw hw 110 rfl)) (tw hw 56 rfl) (by decide) rfl rfl d18_19 rfl ?_
  intro T103 h103 X103 e103 W103 F103
  have N103 := Fr.snoc X103 N102 hn
  have K108 : Keep h0 h103 [r, w] := (((Keep.refl h0 [r, w]).wr W102 (Or.inl (by simp))).wr W103 (Or.inl (by simp)))
  have c109 : Fld Z h103 r "java/util/AbstractList" "modCount" "I" (.int mc) := (Fld.other W103 (Fld.other W102 F1 (Or.inl ne106)) (Or.inr (slot_ne (Or.inl (tw hw 75 rfl)) (Or.inl (tw hw 110 rfl)) (by decide) (t := .int) (t' := .int) (by decide) (by decide))))
  have c110 : Fld Z h103 r "java/util/ArrayList" "elementData" "[Ljava/lang/Object;" (.ref w) := (Fld.other W103 (Fld.other W102 F2 (Or.inl ne106)) (Or.inr (slot_ne (Or.inl (tw hw 78 rfl)) (Or.inl (tw hw 110 rfl)) (by decide) (t := (.array (.object "java/lang/Object"))) (t' := .int) (by decide) (by decide))))
  have c111 : AL Z h103 w kw (.object "java/lang/Object") [(.ref d), (.ref d), (.ref d), .null, .null, .null, .null, .null, .null, .null] := (AL.other W103 A102 (Ne.symm ne106))
  exact Go.retV C X103 rfl d18_22 (by rw [e103]; exact ⟨rfl, N103, K108, c109, c110, F103, c111⟩) (by decide) (by decide)
def Q_add2 (Z : State) (r : Addr) (d : Addr) (w : Addr) (kw : ClassId) (mc : Int32) (h0 : Heap) (rv : Option Value) (h : Heap) (L : List Loc) : Prop := rv = some (.int (1 : Int32)) ∧ Fr Z.heap.size L ∧ Keep h0 h [r, w] ∧ Fld Z h r "java/util/AbstractList" "modCount" "I" (.int (mc + (1 : Int32))) ∧ Fld Z h r "java/util/ArrayList" "elementData" "[Ljava/lang/Object;" (.ref w) ∧ Fld Z h r "java/util/ArrayList" "size" "I" (.int (3 : Int32)) ∧ AL Z h w kw (.object "java/lang/Object") [(.ref d), (.ref d), (.ref d), .null, .null, .null, .null, .null, .null, .null]
set_option maxRecDepth 65536 in
set_option maxHeartbeats 40000000 in
theorem rm_add2 (l : Launch) (Z : State) (a0 : Array Value) (hw : ∀ d ∈ tables_1, d.before a0 Z = true) (r : Addr) (d : Addr) (w : Addr) (kw : ClassId) (mc : Int32) (h0 : Heap) (O0 : Ext Z.heap h0) (E0 : Exa Z h0 r "java/util/ArrayList") (Ed : Exa Z h0 d "com/example/tranche/tranche/journal/DefaultRateChange") (F1 : Fld Z h0 r "java/util/AbstractList" "modCount" "I" (.int mc)) (F2 : Fld Z h0 r "java/util/ArrayList" "elementData" "[Ljava/lang/Object;" (.ref w)) (F3 : Fld Z h0 r "java/util/ArrayList" "size" "I" (.int (2 : Int32))) (Ew : Exa Z h0 w "[Ljava/lang/Object;") (Aw : AL Z h0 w kw (.object "java/lang/Object") [(.ref d), (.ref d), .null, .null, .null, .null, .null, .null, .null, .null]) (hn : Z.heap.size ≤ r) (hnw : Z.heap.size ≤ w) (ho : Ovr Z kw "java/lang/Object") :
    Met1 l Z (⟨"java/util/ArrayList", "add", "(Ljava/lang/Object;)Z"⟩ : MethodName) jdk_38_method_25_code 2 (some .boolean) ({ frames := 1, cells := 0, slots := 0, locals := 15 } : Room) #[(.ref r), (.ref d)] h0 (Q_add2 Z r d w kw mc h0) := by
  refine Met1.of_body (Ls := #[.val (.ref r), .val (.ref d)]) pf_17 (fun m => by first | (simp [entryFrame, mkF, argsToLocals, Value.category]; done) | rfl) ?_
  intro p e s m below meth c T0 C X0 e0
  have N0 : Fr Z.heap.size [] := Fr.nil _
  refine Go.aloadN (pc' := 1) C X0 d17_0 rfl rfl rfl ?_
  refine Go.dup (pc' := 2) C X0 d17_1 rfl rfl ?_
  refine Go.getF (pc' := 5) (host := "") C X0 (Or.inl (tw hw 126 rfl)) (Via.of (tw hw 127 rfl)) e0 F1 d17_2 rfl ?_
  intro T101 X101 e101
  refine Go.iconst (z := (1 : Int32)) (pc' := 6) C X101 d17_5 rfl rfl ?_
  refine Go.iadd (pc' := 7) C X101 d17_6 rfl ?_
  refine Go.putF (pc' := 10) (host := "") (ty := .int) C X101 (Or.inl (tw hw 126 rfl)) (Via.of (tw hw 127 rfl)) e101 F1 E0 (Or.inl (tw hw 75 rfl)) (tw hw 56 rfl) (by decide) rfl rfl d17_7 rfl ?_
  intro T102 h102 X102 e102 W102 F102
  have N102 := Fr.snoc X102 N0 hn
  refine Go.aloadN (pc' := 11) C X102 d17_10 rfl rfl rfl ?_
  refine Go.aloadN (pc' := 12) C X102 d17_11 rfl rfl rfl ?_
  refine Go.aloadN (pc' := 13) C X102 d17_12 rfl rfl rfl ?_
  have c104 : Fld Z h102 r "java/util/ArrayList" "elementData" "[Ljava/lang/Object;" (.ref w) := (Fld.other W102 F2 (Or.inr (slot_ne (Or.inl (tw hw 78 rfl)) (Or.inl (tw hw 75 rfl)) (by decide) (t := (.array (.object "java/lang/Object"))) (t' := .int) (by decide) (by decide))))
  refine Go.getF (pc' := 16) (host := "") C X102 (Or.inl (tw hw 77 rfl)) Via.refl e102 c104 d17_13 rfl ?_
  intro T103 X103 e103
  refine Go.aloadN (pc' := 17) C X103 d17_16 rfl rfl rfl ?_
  have c106 : Fld Z h102 r "java/util/ArrayList" "size" "I" (.int (2 : Int32)) := (Fld.other W102 F3 (Or.inr (slot_ne (Or.inl (tw hw 110 rfl)) (Or.inl (tw hw 75 rfl)) (by decide) (t := .int) (t' := .int) (by decide) (by decide))))
  refine Go.getF (pc' := 20) (host := "") C X103 (Or.inl (tw hw 109 rfl)) Via.refl e103 c106 d17_17 rfl ?_
  intro T105 X105 e105
  have c108 : Exa Z h102 r "java/util/ArrayList" := (Exa.wr W102 E0)
  have c109 : Exa Z h102 d "com/example/tranche/tranche/journal/DefaultRateChange" := (Exa.wr W102 Ed)
  have c110 : Exa Z h102 w "[Ljava/lang/Object;" := (Exa.wr W102 Ew)
  have ne111 : w ≠ r := ne_exa c110 c108 (by decide)
  have c112 : AL Z h102 w kw (.object "java/lang/Object") [(.ref d), (.ref d), .null, .null, .null, .null, .null, .null, .null, .null] := (AL.other W102 Aw ne111)
  have O113 : Ext Z.heap h102 := (Ext.wr O0 W102 hn)
  refine Go.callP (y := (⟨"java/util/ArrayList", "add", "(Ljava/lang/Object;[Ljava/lang/Object;I)V"⟩ : MethodName)) (a := r) (pc' := 23) C X105 (tw hw 128 rfl) (tw hw 129 rfl) (tw hw 131 rfl) (tw hw 130 rfl) c108 (by decide) (rm_ad2 l Z a0 hw r d w kw ((mc + (1 : Int32))) h102 O113 c108 c109 F102 c104 c106 c110 c112 hn hnw ho) (tw hw 132 rfl) (tw hw 57 rfl) e105 (argsL := [(.ref d), (.ref w), (.int (2 : Int32))]) (rest := []) (W := 0) rfl rfl pd_7 rfl (Nat.le_of_eq rfl) rfl (by decide) (by decide) (by decide) (by decide) d17_20 rfl ?_
  intro T107 v107 L107 X107 q107
  obtain ⟨rfl, N107q, K107, P107_0, P107_1, P107_2, P107_3⟩ := q107
  have N107 := Fr.app N102 N107q
  refine Go.iconst (z := (1 : Int32)) (pc' := 24) C X107 d17_23 rfl rfl ?_
  have K114 : Keep h0 T107.heap [r, w] := (((Keep.refl h0 [r, w]).wr W102 (Or.inl (by simp))).trans K107 (allS (Or.inl (by simp)) (allS (Or.inl (by simp)) all0)))
  exact Go.retN C X107 rfl d17_24 (by simp) ⟨rfl, N107, K114, P107_0, P107_1, P107_2, P107_3⟩ (by decide) (by decide)
def Q_ad3 (Z : State) (r : Addr) (d : Addr) (w : Addr) (kw : ClassId) (mc : Int32) (h0 : Heap) (rv : Option Value) (h : Heap) (L : List Loc) : Prop := rv = none ∧ Fr Z.heap.size L ∧ Keep h0 h [r, w] ∧ Fld Z h r "java/util/AbstractList" "modCount" "I" (.int mc) ∧ Fld Z h r "java/util/ArrayList" "elementData" "[Ljava/lang/Object;" (.ref w) ∧ Fld Z h r "java/util/ArrayList" "size" "I" (.int (4 : Int32)) ∧ AL Z h w kw (.object "java/lang/Object") [(.ref d), (.ref d), (.ref d), (.ref d), .null, .null, .null, .null, .null, .null]
set_option maxRecDepth 65536 in
set_option maxHeartbeats 40000000 in
theorem rm_ad3 (l : Launch) (Z : State) (a0 : Array Value) (hw : ∀ d ∈ tables_1, d.before a0 Z = true) (r : Addr) (d : Addr) (w : Addr) (kw : ClassId) (mc : Int32) (h0 : Heap) (O0 : Ext Z.heap h0) (E0 : Exa Z h0 r "java/util/ArrayList") (Ed : Exa Z h0 d "com/example/tranche/tranche/journal/DefaultRateChange") (F1 : Fld Z h0 r "java/util/AbstractList" "modCount" "I" (.int mc)) (F2 : Fld Z h0 r "java/util/ArrayList" "elementData" "[Ljava/lang/Object;" (.ref w)) (F3 : Fld Z h0 r "java/util/ArrayList" "size" "I" (.int (3 : Int32))) (Ew : Exa Z h0 w "[Ljava/lang/Object;") (Aw : AL Z h0 w kw (.object "java/lang/Object") [(.ref d), (.ref d), (.ref d), .null, .null, .null, .null, .null, .null, .null]) (hn : Z.heap.size ≤ r) (hnw : Z.heap.size ≤ w) (ho : Ovr Z kw "java/lang/Object") :
    Met1 l Z (⟨"java/util/ArrayList", "add", "(Ljava/lang/Object;[Ljava/lang/Object;I)V"⟩ : MethodName) jdk_38_method_24_code 4 none ({ frames := 0, cells := 0, slots := 0, locals := 0 } : Room) #[(.ref r), (.ref d), (.ref w), (.int (3 : Int32))] h0 (Q_ad3 Z r d w kw mc h0) := by
  refine Met1.of_body (Ls := #[.val (.ref r), .val (.ref d), .val (.ref w), .val (.int (3 : Int32))]) pf_18 (fun m => by first | (simp [entryFrame, mkF, argsToLocals, Value.category]; done) | rfl) ?_
  intro p e s m below meth c T0 C X0 e0
  have N0 : Fr Z.heap.size [] := Fr.nil _
  refine Go.iloadN (pc' := 1) C X0 d18_0 rfl rfl ?_
  refine Go.aloadN (pc' := 2) C X0 d18_1 rfl rfl rfl ?_
  refine Go.alen (z := (10 : Int32)) (pc' := 3) C X0 e0 Aw rfl d18_2 rfl ?_
  refine Go.icmpYes (pc' := 11) C X0 d18_3 (feq (x := (3 : Int32)) (y := (10 : Int32)) (by decide)).2 (by decide) (by decide) ?_
  refine Go.aloadN (pc' := 12) C X0 d18_11 rfl rfl rfl ?_
  refine Go.iloadN (pc' := 13) C X0 d18_12 rfl rfl ?_
  refine Go.aloadN (pc' := 14) C X0 d18_13 rfl rfl rfl ?_
  refine Go.stR (i := 3) (vs' := [(.ref d), (.ref d), (.ref d), (.ref d), .null, .null, .null, .null, .null, .null]) (pc' := 15) C X0 e0 Aw (by decide) (by decide) (by simp) rfl (AL.sto Aw ho (Ins.of_exa Ed (tw hw 149 rfl))) rfl d18_14 rfl ?_
  intro T102 h102 X102 e102 W102 A102
  have N102 := Fr.snoc X102 N0 hnw
  refine Go.aloadN (pc' := 16) C X102 d18_15 rfl rfl rfl ?_
  refine Go.iloadN (pc' := 17) C X102 d18_16 rfl rfl ?_
  refine Go.iconst (z := (1 : Int32)) (pc' := 18) C X102 d18_17 rfl rfl ?_
  refine Go.iadd (pc' := 19) C X102 d18_18 rfl ?_
  rw [show ((3 : Int32) + (1 : Int32)) = (4 : Int32) from by decide]
  have c104 : Exa Z h102 r "java/util/ArrayList" := (Exa.wr W102 E0)
  have c105 : Exa Z h102 w "[Ljava/lang/Object;" := (Exa.wr W102 Ew)
  have ne106 : r ≠ w := ne_exa c104 c105 (by decide)
  have c107 : Fld Z h102 r "java/util/ArrayList" "size" "I" (.int (3 : Int32)) := (Fld.other W102 F3 (Or.inl ne106))
  refine Go.putF (pc' := 22) (host := "") (ty := .int) C X102 (Or.inl (tw hw 109 rfl)) Via.refl e102 c107 c104 (Or.inl (tw hw 110 rfl)) (tw hw 56 rfl) (by decide) rfl rfl d18_19 rfl ?_
  intro T103 h103 X103 e103 W103 F103
  have N103 := Fr.snoc X103 N102 hn
  have K108 : Keep h0 h103 [r, w] := (((Keep.refl h0 [r, w]).wr W102 (Or.inl (by simp))).wr W103 (Or.inl (by simp)))
  have c109 : Fld Z h103 r "java/util/AbstractList" "modCount" "I" (.int mc) := (Fld.other W103 (Fld.other W102 F1 (Or.inl ne106)) (Or.inr (slot_ne (Or.inl (tw hw 75 rfl)) (Or.inl (tw hw 110 rfl)) (by decide) (t := .int) (t' := .int) (by decide) (by decide))))
  have c110 : Fld Z h103 r "java/util/ArrayList" "elementData" "[Ljava/lang/Object;" (.ref w) := (Fld.other W103 (Fld.other W102 F2 (Or.inl ne106)) (Or.inr (slot_ne (Or.inl (tw hw 78 rfl)) (Or.inl (tw hw 110 rfl)) (by decide) (t := (.array (.object "java/lang/Object"))) (t' := .int) (by decide) (by decide))))
  have c111 : AL Z h103 w kw (.object "java/lang/Object") [(.ref d), (.ref d), (.ref d), (.ref d), .null, .null, .null, .null, .null, .null] := (AL.other W103 A102 (Ne.symm ne106))
  exact Go.retV C X103 rfl d18_22 (by rw [e103]; exact ⟨rfl, N103, K108, c109, c110, F103, c111⟩) (by decide) (by decide)
def Q_add3 (Z : State) (r : Addr) (d : Addr) (w : Addr) (kw : ClassId) (mc : Int32) (h0 : Heap) (rv : Option Value) (h : Heap) (L : List Loc) : Prop := rv = some (.int (1 : Int32)) ∧ Fr Z.heap.size L ∧ Keep h0 h [r, w] ∧ Fld Z h r "java/util/AbstractList" "modCount" "I" (.int (mc + (1 : Int32))) ∧ Fld Z h r "java/util/ArrayList" "elementData" "[Ljava/lang/Object;" (.ref w) ∧ Fld Z h r "java/util/ArrayList" "size" "I" (.int (4 : Int32)) ∧ AL Z h w kw (.object "java/lang/Object") [(.ref d), (.ref d), (.ref d), (.ref d), .null, .null, .null, .null, .null, .null]
set_option maxRecDepth 65536 in
set_option maxHeartbeats 40000000 in
theorem rm_add3 (l : Launch) (Z : State) (a0 : Array Value) (hw : ∀ d ∈ tables_1, d.before a0 Z = true) (r : Addr) (d : Addr) (w : Addr) (kw : ClassId) (mc : Int32) (h0 : Heap) (O0 : Ext Z.heap h0) (E0 : Exa Z h0 r "java/util/ArrayList") (Ed : Exa Z h0 d "com/example/tranche/tranche/journal/DefaultRateChange") (F1 : Fld Z h0 r "java/util/AbstractList" "modCount" "I" (.int mc)) (F2 : Fld Z h0 r "java/util/ArrayList" "elementData" "[Ljava/lang/Object;" (.ref w)) (F3 : Fld Z h0 r "java/util/ArrayList" "size" "I" (.int (3 : Int32))) (Ew : Exa Z h0 w "[Ljava/lang/Object;") (Aw : AL Z h0 w kw (.object "java/lang/Object") [(.ref d), (.ref d), (.ref d), .null, .null, .null, .null, .null, .null, .null]) (hn : Z.heap.size ≤ r) (hnw : Z.heap.size ≤ w) (ho : Ovr Z kw "java/lang/Object") :
    Met1 l Z (⟨"java/util/ArrayList", "add", "(Ljava/lang/Object;)Z"⟩ : MethodName) jdk_38_method_25_code 2 (some .boolean) ({ frames := 1, cells := 0, slots := 0, locals := 15 } : Room) #[(.ref r), (.ref d)] h0 (Q_add3 Z r d w kw mc h0) := by
  refine Met1.of_body (Ls := #[.val (.ref r), .val (.ref d)]) pf_17 (fun m => by first | (simp [entryFrame, mkF, argsToLocals, Value.category]; done) | rfl) ?_
  intro p e s m below meth c T0 C X0 e0
  have N0 : Fr Z.heap.size [] := Fr.nil _
  refine Go.aloadN (pc' := 1) C X0 d17_0 rfl rfl rfl ?_
  refine Go.dup (pc' := 2) C X0 d17_1 rfl rfl ?_
  refine Go.getF (pc' := 5) (host := "") C X0 (Or.inl (tw hw 126 rfl)) (Via.of (tw hw 127 rfl)) e0 F1 d17_2 rfl ?_
  intro T101 X101 e101
  refine Go.iconst (z := (1 : Int32)) (pc' := 6) C X101 d17_5 rfl rfl ?_
  refine Go.iadd (pc' := 7) C X101 d17_6 rfl ?_
  refine Go.putF (pc' := 10) (host := "") (ty := .int) C X101 (Or.inl (tw hw 126 rfl)) (Via.of (tw hw 127 rfl)) e101 F1 E0 (Or.inl (tw hw 75 rfl)) (tw hw 56 rfl) (by decide) rfl rfl d17_7 rfl ?_
  intro T102 h102 X102 e102 W102 F102
  have N102 := Fr.snoc X102 N0 hn
  refine Go.aloadN (pc' := 11) C X102 d17_10 rfl rfl rfl ?_
  refine Go.aloadN (pc' := 12) C X102 d17_11 rfl rfl rfl ?_
  refine Go.aloadN (pc' := 13) C X102 d17_12 rfl rfl rfl ?_
  have c104 : Fld Z h102 r "java/util/ArrayList" "elementData" "[Ljava/lang/Object;" (.ref w) := (Fld.other W102 F2 (Or.inr (slot_ne (Or.inl (tw hw 78 rfl)) (Or.inl (tw hw 75 rfl)) (by decide) (t := (.array (.object "java/lang/Object"))) (t' := .int) (by decide) (by decide))))
  refine Go.getF (pc' := 16) (host := "") C X102 (Or.inl (tw hw 77 rfl)) Via.refl e102 c104 d17_13 rfl ?_
  intro T103 X103 e103
  refine Go.aloadN (pc' := 17) C X103 d17_16 rfl rfl rfl ?_
  have c106 : Fld Z h102 r "java/util/ArrayList" "size" "I" (.int (3 : Int32)) := (Fld.other W102 F3 (Or.inr (slot_ne (Or.inl (tw hw 110 rfl)) (Or.inl (tw hw 75 rfl)) (by decide) (t := .int) (t' := .int) (by decide) (by decide))))
  refine Go.getF (pc' := 20) (host := "") C X103 (Or.inl (tw hw 109 rfl)) Via.refl e103 c106 d17_17 rfl ?_
  intro T105 X105 e105
  have c108 : Exa Z h102 r "java/util/ArrayList" := (Exa.wr W102 E0)
  have c109 : Exa Z h102 d "com/example/tranche/tranche/journal/DefaultRateChange" := (Exa.wr W102 Ed)
  have c110 : Exa Z h102 w "[Ljava/lang/Object;" := (Exa.wr W102 Ew)
  have ne111 : w ≠ r := ne_exa c110 c108 (by decide)
  have c112 : AL Z h102 w kw (.object "java/lang/Object") [(.ref d), (.ref d), (.ref d), .null, .null, .null, .null, .null, .null, .null] := (AL.other W102 Aw ne111)
  have O113 : Ext Z.heap h102 := (Ext.wr O0 W102 hn)
  refine Go.callP (y := (⟨"java/util/ArrayList", "add", "(Ljava/lang/Object;[Ljava/lang/Object;I)V"⟩ : MethodName)) (a := r) (pc' := 23) C X105 (tw hw 128 rfl) (tw hw 129 rfl) (tw hw 131 rfl) (tw hw 130 rfl) c108 (by decide) (rm_ad3 l Z a0 hw r d w kw ((mc + (1 : Int32))) h102 O113 c108 c109 F102 c104 c106 c110 c112 hn hnw ho) (tw hw 132 rfl) (tw hw 57 rfl) e105 (argsL := [(.ref d), (.ref w), (.int (3 : Int32))]) (rest := []) (W := 0) rfl rfl pd_7 rfl (Nat.le_of_eq rfl) rfl (by decide) (by decide) (by decide) (by decide) d17_20 rfl ?_
  intro T107 v107 L107 X107 q107
  obtain ⟨rfl, N107q, K107, P107_0, P107_1, P107_2, P107_3⟩ := q107
  have N107 := Fr.app N102 N107q
  refine Go.iconst (z := (1 : Int32)) (pc' := 24) C X107 d17_23 rfl rfl ?_
  have K114 : Keep h0 T107.heap [r, w] := (((Keep.refl h0 [r, w]).wr W102 (Or.inl (by simp))).trans K107 (allS (Or.inl (by simp)) (allS (Or.inl (by simp)) all0)))
  exact Go.retN C X107 rfl d17_24 (by simp) ⟨rfl, N107, K114, P107_0, P107_1, P107_2, P107_3⟩ (by decide) (by decide)
def Q_ad4 (Z : State) (r : Addr) (d : Addr) (w : Addr) (kw : ClassId) (mc : Int32) (h0 : Heap) (rv : Option Value) (h : Heap) (L : List Loc) : Prop := rv = none ∧ Fr Z.heap.size L ∧ Keep h0 h [r, w] ∧ Fld Z h r "java/util/AbstractList" "modCount" "I" (.int mc) ∧ Fld Z h r "java/util/ArrayList" "elementData" "[Ljava/lang/Object;" (.ref w) ∧ Fld Z h r "java/util/ArrayList" "size" "I" (.int (5 : Int32)) ∧ AL Z h w kw (.object "java/lang/Object") [(.ref d), (.ref d), (.ref d), (.ref d), (.ref d), .null, .null, .null, .null, .null]
set_option maxRecDepth 65536 in
set_option maxHeartbeats 40000000 in
theorem rm_ad4 (l : Launch) (Z : State) (a0 : Array Value) (hw : ∀ d ∈ tables_1, d.before a0 Z = true) (r : Addr) (d : Addr) (w : Addr) (kw : ClassId) (mc : Int32) (h0 : Heap) (O0 : Ext Z.heap h0) (E0 : Exa Z h0 r "java/util/ArrayList") (Ed : Exa Z h0 d "com/example/tranche/tranche/journal/DefaultRateChange") (F1 : Fld Z h0 r "java/util/AbstractList" "modCount" "I" (.int mc)) (F2 : Fld Z h0 r "java/util/ArrayList" "elementData" "[Ljava/lang/Object;" (.ref w)) (F3 : Fld Z h0 r "java/util/ArrayList" "size" "I" (.int (4 : Int32))) (Ew : Exa Z h0 w "[Ljava/lang/Object;") (Aw : AL Z h0 w kw (.object "java/lang/Object") [(.ref d), (.ref d), (.ref d), (.ref d), .null, .null, .null, .null, .null, .null]) (hn : Z.heap.size ≤ r) (hnw : Z.heap.size ≤ w) (ho : Ovr Z kw "java/lang/Object") :
    Met1 l Z (⟨"java/util/ArrayList", "add", "(Ljava/lang/Object;[Ljava/lang/Object;I)V"⟩ : MethodName) jdk_38_method_24_code 4 none ({ frames := 0, cells := 0, slots := 0, locals := 0 } : Room) #[(.ref r), (.ref d), (.ref w), (.int (4 : Int32))] h0 (Q_ad4 Z r d w kw mc h0) := by
  refine Met1.of_body (Ls := #[.val (.ref r), .val (.ref d), .val (.ref w), .val (.int (4 : Int32))]) pf_18 (fun m => by first | (simp [entryFrame, mkF, argsToLocals, Value.category]; done) | rfl) ?_
  intro p e s m below meth c T0 C X0 e0
  have N0 : Fr Z.heap.size [] := Fr.nil _
  refine Go.iloadN (pc' := 1) C X0 d18_0 rfl rfl ?_
  refine Go.aloadN (pc' := 2) C X0 d18_1 rfl rfl rfl ?_
  refine Go.alen (z := (10 : Int32)) (pc' := 3) C X0 e0 Aw rfl d18_2 rfl ?_
  refine Go.icmpYes (pc' := 11) C X0 d18_3 (feq (x := (4 : Int32)) (y := (10 : Int32)) (by decide)).2 (by decide) (by decide) ?_
  refine Go.aloadN (pc' := 12) C X0 d18_11 rfl rfl rfl ?_
  refine Go.iloadN (pc' := 13) C X0 d18_12 rfl rfl ?_
  refine Go.aloadN (pc' := 14) C X0 d18_13 rfl rfl rfl ?_
  refine Go.stR (i := 4) (vs' := [(.ref d), (.ref d), (.ref d), (.ref d), (.ref d), .null, .null, .null, .null, .null]) (pc' := 15) C X0 e0 Aw (by decide) (by decide) (by simp) rfl (AL.sto Aw ho (Ins.of_exa Ed (tw hw 149 rfl))) rfl d18_14 rfl ?_
  intro T102 h102 X102 e102 W102 A102
  have N102 := Fr.snoc X102 N0 hnw
  refine Go.aloadN (pc' := 16) C X102 d18_15 rfl rfl rfl ?_
  refine Go.iloadN (pc' := 17) C X102 d18_16 rfl rfl ?_
  refine Go.iconst (z := (1 : Int32)) (pc' := 18) C X102 d18_17 rfl rfl ?_
  refine Go.iadd (pc' := 19) C X102 d18_18 rfl ?_
  rw [show ((4 : Int32) + (1 : Int32)) = (5 : Int32) from by decide]
  have c104 : Exa Z h102 r "java/util/ArrayList" := (Exa.wr W102 E0)
  have c105 : Exa Z h102 w "[Ljava/lang/Object;" := (Exa.wr W102 Ew)
  have ne106 : r ≠ w := ne_exa c104 c105 (by decide)
  have c107 : Fld Z h102 r "java/util/ArrayList" "size" "I" (.int (4 : Int32)) := (Fld.other W102 F3 (Or.inl ne106))
  refine Go.putF (pc' := 22) (host := "") (ty := .int) C X102 (Or.inl (tw hw 109 rfl)) Via.refl e102 c107 c104 (Or.inl (tw hw 110 rfl)) (tw hw 56 rfl) (by decide) rfl rfl d18_19 rfl ?_
  intro T103 h103 X103 e103 W103 F103
  have N103 := Fr.snoc X103 N102 hn
  have K108 : Keep h0 h103 [r, w] := (((Keep.refl h0 [r, w]).wr W102 (Or.inl (by simp))).wr W103 (Or.inl (by simp)))
  have c109 : Fld Z h103 r "java/util/AbstractList" "modCount" "I" (.int mc) := (Fld.other W103 (Fld.other W102 F1 (Or.inl ne106)) (Or.inr (slot_ne (Or.inl (tw hw 75 rfl)) (Or.inl (tw hw 110 rfl)) (by decide) (t := .int) (t' := .int) (by decide) (by decide))))
  have c110 : Fld Z h103 r "java/util/ArrayList" "elementData" "[Ljava/lang/Object;" (.ref w) := (Fld.other W103 (Fld.other W102 F2 (Or.inl ne106)) (Or.inr (slot_ne (Or.inl (tw hw 78 rfl)) (Or.inl (tw hw 110 rfl)) (by decide) (t := (.array (.object "java/lang/Object"))) (t' := .int) (by decide) (by decide))))
  have c111 : AL Z h103 w kw (.object "java/lang/Object") [(.ref d), (.ref d), (.ref d), (.ref d), (.ref d), .null, .null, .null, .null, .null] := (AL.other W103 A102 (Ne.symm ne106))
  exact Go.retV C X103 rfl d18_22 (by rw [e103]; exact ⟨rfl, N103, K108, c109, c110, F103, c111⟩) (by decide) (by decide)
def Q_add4 (Z : State) (r : Addr) (d : Addr) (w : Addr) (kw : ClassId) (mc : Int32) (h0 : Heap) (rv : Option Value) (h : Heap) (L : List Loc) : Prop := rv = some (.int (1 : Int32)) ∧ Fr Z.heap.size L ∧ Keep h0 h [r, w] ∧ Fld Z h r "java/util/AbstractList" "modCount" "I" (.int (mc + (1 : Int32))) ∧ Fld Z h r "java/util/ArrayList" "elementData" "[Ljava/lang/Object;" (.ref w) ∧ Fld Z h r "java/util/ArrayList" "size" "I" (.int (5 : Int32)) ∧ AL Z h w kw (.object "java/lang/Object") [(.ref d), (.ref d), (.ref d), (.ref d), (.ref d), .null, .null, .null, .null, .null]
set_option maxRecDepth 65536 in
set_option maxHeartbeats 40000000 in
theorem rm_add4 (l : Launch) (Z : State) (a0 : Array Value) (hw : ∀ d ∈ tables_1, d.before a0 Z = true) (r : Addr) (d : Addr) (w : Addr) (kw : ClassId) (mc : Int32) (h0 : Heap) (O0 : Ext Z.heap h0) (E0 : Exa Z h0 r "java/util/ArrayList") (Ed : Exa Z h0 d "com/example/tranche/tranche/journal/DefaultRateChange") (F1 : Fld Z h0 r "java/util/AbstractList" "modCount" "I" (.int mc)) (F2 : Fld Z h0 r "java/util/ArrayList" "elementData" "[Ljava/lang/Object;" (.ref w)) (F3 : Fld Z h0 r "java/util/ArrayList" "size" "I" (.int (4 : Int32))) (Ew : Exa Z h0 w "[Ljava/lang/Object;") (Aw : AL Z h0 w kw (.object "java/lang/Object") [(.ref d), (.ref d), (.ref d), (.ref d), .null, .null, .null, .null, .null, .null]) (hn : Z.heap.size ≤ r) (hnw : Z.heap.size ≤ w) (ho : Ovr Z kw "java/lang/Object") :
    Met1 l Z (⟨"java/util/ArrayList", "add", "(Ljava/lang/Object;)Z"⟩ : MethodName) jdk_38_method_25_code 2 (some .boolean) ({ frames := 1, cells := 0, slots := 0, locals := 15 } : Room) #[(.ref r), (.ref d)] h0 (Q_add4 Z r d w kw mc h0) := by
  refine Met1.of_body (Ls := #[.val (.ref r), .val (.ref d)]) pf_17 (fun m => by first | (simp [entryFrame, mkF, argsToLocals, Value.category]; done) | rfl) ?_
  intro p e s m below meth c T0 C X0 e0
  have N0 : Fr Z.heap.size [] := Fr.nil _
  refine Go.aloadN (pc' := 1) C X0 d17_0 rfl rfl rfl ?_
  refine Go.dup (pc' := 2) C X0 d17_1 rfl rfl ?_
  refine Go.getF (pc' := 5) (host := "") C X0 (Or.inl (tw hw 126 rfl)) (Via.of (tw hw 127 rfl)) e0 F1 d17_2 rfl ?_
  intro T101 X101 e101
  refine Go.iconst (z := (1 : Int32)) (pc' := 6) C X101 d17_5 rfl rfl ?_
  refine Go.iadd (pc' := 7) C X101 d17_6 rfl ?_
  refine Go.putF (pc' := 10) (host := "") (ty := .int) C X101 (Or.inl (tw hw 126 rfl)) (Via.of (tw hw 127 rfl)) e101 F1 E0 (Or.inl (tw hw 75 rfl)) (tw hw 56 rfl) (by decide) rfl rfl d17_7 rfl ?_
  intro T102 h102 X102 e102 W102 F102
  have N102 := Fr.snoc X102 N0 hn
  refine Go.aloadN (pc' := 11) C X102 d17_10 rfl rfl rfl ?_
  refine Go.aloadN (pc' := 12) C X102 d17_11 rfl rfl rfl ?_
  refine Go.aloadN (pc' := 13) C X102 d17_12 rfl rfl rfl ?_
  have c104 : Fld Z h102 r "java/util/ArrayList" "elementData" "[Ljava/lang/Object;" (.ref w) := (Fld.other W102 F2 (Or.inr (slot_ne (Or.inl (tw hw 78 rfl)) (Or.inl (tw hw 75 rfl)) (by decide) (t := (.array (.object "java/lang/Object"))) (t' := .int) (by decide) (by decide))))
  refine Go.getF (pc' := 16) (host := "") C X102 (Or.inl (tw hw 77 rfl)) Via.refl e102 c104 d17_13 rfl ?_
  intro T103 X103 e103
  refine Go.aloadN (pc' := 17) C X103 d17_16 rfl rfl rfl ?_
  have c106 : Fld Z h102 r "java/util/ArrayList" "size" "I" (.int (4 : Int32)) := (Fld.other W102 F3 (Or.inr (slot_ne (Or.inl (tw hw 110 rfl)) (Or.inl (tw hw 75 rfl)) (by decide) (t := .int) (t' := .int) (by decide) (by decide))))
  refine Go.getF (pc' := 20) (host := "") C X103 (Or.inl (tw hw 109 rfl)) Via.refl e103 c106 d17_17 rfl ?_
  intro T105 X105 e105
  have c108 : Exa Z h102 r "java/util/ArrayList" := (Exa.wr W102 E0)
  have c109 : Exa Z h102 d "com/example/tranche/tranche/journal/DefaultRateChange" := (Exa.wr W102 Ed)
  have c110 : Exa Z h102 w "[Ljava/lang/Object;" := (Exa.wr W102 Ew)
  have ne111 : w ≠ r := ne_exa c110 c108 (by decide)
  have c112 : AL Z h102 w kw (.object "java/lang/Object") [(.ref d), (.ref d), (.ref d), (.ref d), .null, .null, .null, .null, .null, .null] := (AL.other W102 Aw ne111)
  have O113 : Ext Z.heap h102 := (Ext.wr O0 W102 hn)
  refine Go.callP (y := (⟨"java/util/ArrayList", "add", "(Ljava/lang/Object;[Ljava/lang/Object;I)V"⟩ : MethodName)) (a := r) (pc' := 23) C X105 (tw hw 128 rfl) (tw hw 129 rfl) (tw hw 131 rfl) (tw hw 130 rfl) c108 (by decide) (rm_ad4 l Z a0 hw r d w kw ((mc + (1 : Int32))) h102 O113 c108 c109 F102 c104 c106 c110 c112 hn hnw ho) (tw hw 132 rfl) (tw hw 57 rfl) e105 (argsL := [(.ref d), (.ref w), (.int (4 : Int32))]) (rest := []) (W := 0) rfl rfl pd_7 rfl (Nat.le_of_eq rfl) rfl (by decide) (by decide) (by decide) (by decide) d17_20 rfl ?_
  intro T107 v107 L107 X107 q107
  obtain ⟨rfl, N107q, K107, P107_0, P107_1, P107_2, P107_3⟩ := q107
  have N107 := Fr.app N102 N107q
  refine Go.iconst (z := (1 : Int32)) (pc' := 24) C X107 d17_23 rfl rfl ?_
  have K114 : Keep h0 T107.heap [r, w] := (((Keep.refl h0 [r, w]).wr W102 (Or.inl (by simp))).trans K107 (allS (Or.inl (by simp)) (allS (Or.inl (by simp)) all0)))
  exact Go.retN C X107 rfl d17_24 (by simp) ⟨rfl, N107, K114, P107_0, P107_1, P107_2, P107_3⟩ (by decide) (by decide)
def Q_ad5 (Z : State) (r : Addr) (d : Addr) (w : Addr) (kw : ClassId) (mc : Int32) (h0 : Heap) (rv : Option Value) (h : Heap) (L : List Loc) : Prop := rv = none ∧ Fr Z.heap.size L ∧ Keep h0 h [r, w] ∧ Fld Z h r "java/util/AbstractList" "modCount" "I" (.int mc) ∧ Fld Z h r "java/util/ArrayList" "elementData" "[Ljava/lang/Object;" (.ref w) ∧ Fld Z h r "java/util/ArrayList" "size" "I" (.int (6 : Int32)) ∧ AL Z h w kw (.object "java/lang/Object") [(.ref d), (.ref d), (.ref d), (.ref d), (.ref d), (.ref d), .null, .null, .null, .null]
set_option maxRecDepth 65536 in
set_option maxHeartbeats 40000000 in
theorem rm_ad5 (l : Launch) (Z : State) (a0 : Array Value) (hw : ∀ d ∈ tables_1, d.before a0 Z = true) (r : Addr) (d : Addr) (w : Addr) (kw : ClassId) (mc : Int32) (h0 : Heap) (O0 : Ext Z.heap h0) (E0 : Exa Z h0 r "java/util/ArrayList") (Ed : Exa Z h0 d "com/example/tranche/tranche/journal/DefaultRateChange") (F1 : Fld Z h0 r "java/util/AbstractList" "modCount" "I" (.int mc)) (F2 : Fld Z h0 r "java/util/ArrayList" "elementData" "[Ljava/lang/Object;" (.ref w)) (F3 : Fld Z h0 r "java/util/ArrayList" "size" "I" (.int (5 : Int32))) (Ew : Exa Z h0 w "[Ljava/lang/Object;") (Aw : AL Z h0 w kw (.object "java/lang/Object") [(.ref d), (.ref d), (.ref d), (.ref d), (.ref d), .null, .null, .null, .null, .null]) (hn : Z.heap.size ≤ r) (hnw : Z.heap.size ≤ w) (ho : Ovr Z kw "java/lang/Object") :
    Met1 l Z (⟨"java/util/ArrayList", "add", "(Ljava/lang/Object;[Ljava/lang/Object;I)V"⟩ : MethodName) jdk_38_method_24_code 4 none ({ frames := 0, cells := 0, slots := 0, locals := 0 } : Room) #[(.ref r), (.ref d), (.ref w), (.int (5 : Int32))] h0 (Q_ad5 Z r d w kw mc h0) := by
  refine Met1.of_body (Ls := #[.val (.ref r), .val (.ref d), .val (.ref w), .val (.int (5 : Int32))]) pf_18 (fun m => by first | (simp [entryFrame, mkF, argsToLocals, Value.category]; done) | rfl) ?_
  intro p e s m below meth c T0 C X0 e0
  have N0 : Fr Z.heap.size [] := Fr.nil _
  refine Go.iloadN (pc' := 1) C X0 d18_0 rfl rfl ?_
  refine Go.aloadN (pc' := 2) C X0 d18_1 rfl rfl rfl ?_
  refine Go.alen (z := (10 : Int32)) (pc' := 3) C X0 e0 Aw rfl d18_2 rfl ?_
  refine Go.icmpYes (pc' := 11) C X0 d18_3 (feq (x := (5 : Int32)) (y := (10 : Int32)) (by decide)).2 (by decide) (by decide) ?_
  refine Go.aloadN (pc' := 12) C X0 d18_11 rfl rfl rfl ?_
  refine Go.iloadN (pc' := 13) C X0 d18_12 rfl rfl ?_
  refine Go.aloadN (pc' := 14) C X0 d18_13 rfl rfl rfl ?_
  refine Go.stR (i := 5) (vs' := [(.ref d), (.ref d), (.ref d), (.ref d), (.ref d), (.ref d), .null, .null, .null, .null]) (pc' := 15) C X0 e0 Aw (by decide) (by decide) (by simp) rfl (AL.sto Aw ho (Ins.of_exa Ed (tw hw 149 rfl))) rfl d18_14 rfl ?_
  intro T102 h102 X102 e102 W102 A102
  have N102 := Fr.snoc X102 N0 hnw
  refine Go.aloadN (pc' := 16) C X102 d18_15 rfl rfl rfl ?_
  refine Go.iloadN (pc' := 17) C X102 d18_16 rfl rfl ?_
  refine Go.iconst (z := (1 : Int32)) (pc' := 18) C X102 d18_17 rfl rfl ?_
  refine Go.iadd (pc' := 19) C X102 d18_18 rfl ?_
  rw [show ((5 : Int32) + (1 : Int32)) = (6 : Int32) from by decide]
  have c104 : Exa Z h102 r "java/util/ArrayList" := (Exa.wr W102 E0)
  have c105 : Exa Z h102 w "[Ljava/lang/Object;" := (Exa.wr W102 Ew)
  have ne106 : r ≠ w := ne_exa c104 c105 (by decide)
  have c107 : Fld Z h102 r "java/util/ArrayList" "size" "I" (.int (5 : Int32)) := (Fld.other W102 F3 (Or.inl ne106))
  refine Go.putF (pc' := 22) (host := "") (ty := .int) C X102 (Or.inl (tw hw 109 rfl)) Via.refl e102 c107 c104 (Or.inl (tw hw 110 rfl)) (tw hw 56 rfl) (by decide) rfl rfl d18_19 rfl ?_
  intro T103 h103 X103 e103 W103 F103
  have N103 := Fr.snoc X103 N102 hn
  have K108 : Keep h0 h103 [r, w] := (((Keep.refl h0 [r, w]).wr W102 (Or.inl (by simp))).wr W103 (Or.inl (by simp)))
  have c109 : Fld Z h103 r "java/util/AbstractList" "modCount" "I" (.int mc) := (Fld.other W103 (Fld.other W102 F1 (Or.inl ne106)) (Or.inr (slot_ne (Or.inl (tw hw 75 rfl)) (Or.inl (tw hw 110 rfl)) (by decide) (t := .int) (t' := .int) (by decide) (by decide))))
  have c110 : Fld Z h103 r "java/util/ArrayList" "elementData" "[Ljava/lang/Object;" (.ref w) := (Fld.other W103 (Fld.other W102 F2 (Or.inl ne106)) (Or.inr (slot_ne (Or.inl (tw hw 78 rfl)) (Or.inl (tw hw 110 rfl)) (by decide) (t := (.array (.object "java/lang/Object"))) (t' := .int) (by decide) (by decide))))
  have c111 : AL Z h103 w kw (.object "java/lang/Object") [(.ref d), (.ref d), (.ref d), (.ref d), (.ref d), (.ref d), .null, .null, .null, .null] := (AL.other W103 A102 (Ne.symm ne106))
  exact Go.retV C X103 rfl d18_22 (by rw [e103]; exact ⟨rfl, N103, K108, c109, c110, F103, c111⟩) (by decide) (by decide)
def Q_add5 (Z : State) (r : Addr) (d : Addr) (w : Addr) (kw : ClassId) (mc : Int32) (h0 : Heap) (rv : Option Value) (h : Heap) (L : List Loc) : Prop := rv = some (.int (1 : Int32)) ∧ Fr Z.heap.size L ∧ Keep h0 h [r, w] ∧ Fld Z h r "java/util/AbstractList" "modCount" "I" (.int (mc + (1 : Int32))) ∧ Fld Z h r "java/util/ArrayList" "elementData" "[Ljava/lang/Object;" (.ref w) ∧ Fld Z h r "java/util/ArrayList" "size" "I" (.int (6 : Int32)) ∧ AL Z h w kw (.object "java/lang/Object") [(.ref d), (.ref d), (.ref d), (.ref d), (.ref d), (.ref d), .null, .null, .null, .null]
set_option maxRecDepth 65536 in
set_option maxHeartbeats 40000000 in
theorem rm_add5 (l : Launch) (Z : State) (a0 : Array Value) (hw : ∀ d ∈ tables_1, d.before a0 Z = true) (r : Addr) (d : Addr) (w : Addr) (kw : ClassId) (mc : Int32) (h0 : Heap) (O0 : Ext Z.heap h0) (E0 : Exa Z h0 r "java/util/ArrayList") (Ed : Exa Z h0 d "com/example/tranche/tranche/journal/DefaultRateChange") (F1 : Fld Z h0 r "java/util/AbstractList" "modCount" "I" (.int mc)) (F2 : Fld Z h0 r "java/util/ArrayList" "elementData" "[Ljava/lang/Object;" (.ref w)) (F3 : Fld Z h0 r "java/util/ArrayList" "size" "I" (.int (5 : Int32))) (Ew : Exa Z h0 w "[Ljava/lang/Object;") (Aw : AL Z h0 w kw (.object "java/lang/Object") [(.ref d), (.ref d), (.ref d), (.ref d), (.ref d), .null, .null, .null, .null, .null]) (hn : Z.heap.size ≤ r) (hnw : Z.heap.size ≤ w) (ho : Ovr Z kw "java/lang/Object") :
    Met1 l Z (⟨"java/util/ArrayList", "add", "(Ljava/lang/Object;)Z"⟩ : MethodName) jdk_38_method_25_code 2 (some .boolean) ({ frames := 1, cells := 0, slots := 0, locals := 15 } : Room) #[(.ref r), (.ref d)] h0 (Q_add5 Z r d w kw mc h0) := by
  refine Met1.of_body (Ls := #[.val (.ref r), .val (.ref d)]) pf_17 (fun m => by first | (simp [entryFrame, mkF, argsToLocals, Value.category]; done) | rfl) ?_
  intro p e s m below meth c T0 C X0 e0
  have N0 : Fr Z.heap.size [] := Fr.nil _
  refine Go.aloadN (pc' := 1) C X0 d17_0 rfl rfl rfl ?_
  refine Go.dup (pc' := 2) C X0 d17_1 rfl rfl ?_
  refine Go.getF (pc' := 5) (host := "") C X0 (Or.inl (tw hw 126 rfl)) (Via.of (tw hw 127 rfl)) e0 F1 d17_2 rfl ?_
  intro T101 X101 e101
  refine Go.iconst (z := (1 : Int32)) (pc' := 6) C X101 d17_5 rfl rfl ?_
  refine Go.iadd (pc' := 7) C X101 d17_6 rfl ?_
  refine Go.putF (pc' := 10) (host := "") (ty := .int) C X101 (Or.inl (tw hw 126 rfl)) (Via.of (tw hw 127 rfl)) e101 F1 E0 (Or.inl (tw hw 75 rfl)) (tw hw 56 rfl) (by decide) rfl rfl d17_7 rfl ?_
  intro T102 h102 X102 e102 W102 F102
  have N102 := Fr.snoc X102 N0 hn
  refine Go.aloadN (pc' := 11) C X102 d17_10 rfl rfl rfl ?_
  refine Go.aloadN (pc' := 12) C X102 d17_11 rfl rfl rfl ?_
  refine Go.aloadN (pc' := 13) C X102 d17_12 rfl rfl rfl ?_
  have c104 : Fld Z h102 r "java/util/ArrayList" "elementData" "[Ljava/lang/Object;" (.ref w) := (Fld.other W102 F2 (Or.inr (slot_ne (Or.inl (tw hw 78 rfl)) (Or.inl (tw hw 75 rfl)) (by decide) (t := (.array (.object "java/lang/Object"))) (t' := .int) (by decide) (by decide))))
  refine Go.getF (pc' := 16) (host := "") C X102 (Or.inl (tw hw 77 rfl)) Via.refl e102 c104 d17_13 rfl ?_
  intro T103 X103 e103
  refine Go.aloadN (pc' := 17) C X103 d17_16 rfl rfl rfl ?_
  have c106 : Fld Z h102 r "java/util/ArrayList" "size" "I" (.int (5 : Int32)) := (Fld.other W102 F3 (Or.inr (slot_ne (Or.inl (tw hw 110 rfl)) (Or.inl (tw hw 75 rfl)) (by decide) (t := .int) (t' := .int) (by decide) (by decide))))
  refine Go.getF (pc' := 20) (host := "") C X103 (Or.inl (tw hw 109 rfl)) Via.refl e103 c106 d17_17 rfl ?_
  intro T105 X105 e105
  have c108 : Exa Z h102 r "java/util/ArrayList" := (Exa.wr W102 E0)
  have c109 : Exa Z h102 d "com/example/tranche/tranche/journal/DefaultRateChange" := (Exa.wr W102 Ed)
  have c110 : Exa Z h102 w "[Ljava/lang/Object;" := (Exa.wr W102 Ew)
  have ne111 : w ≠ r := ne_exa c110 c108 (by decide)
  have c112 : AL Z h102 w kw (.object "java/lang/Object") [(.ref d), (.ref d), (.ref d), (.ref d), (.ref d), .null, .null, .null, .null, .null] := (AL.other W102 Aw ne111)
  have O113 : Ext Z.heap h102 := (Ext.wr O0 W102 hn)
  refine Go.callP (y := (⟨"java/util/ArrayList", "add", "(Ljava/lang/Object;[Ljava/lang/Object;I)V"⟩ : MethodName)) (a := r) (pc' := 23) C X105 (tw hw 128 rfl) (tw hw 129 rfl) (tw hw 131 rfl) (tw hw 130 rfl) c108 (by decide) (rm_ad5 l Z a0 hw r d w kw ((mc + (1 : Int32))) h102 O113 c108 c109 F102 c104 c106 c110 c112 hn hnw ho) (tw hw 132 rfl) (tw hw 57 rfl) e105 (argsL := [(.ref d), (.ref w), (.int (5 : Int32))]) (rest := []) (W := 0) rfl rfl pd_7 rfl (Nat.le_of_eq rfl) rfl (by decide) (by decide) (by decide) (by decide) d17_20 rfl ?_
  intro T107 v107 L107 X107 q107
  obtain ⟨rfl, N107q, K107, P107_0, P107_1, P107_2, P107_3⟩ := q107
  have N107 := Fr.app N102 N107q
  refine Go.iconst (z := (1 : Int32)) (pc' := 24) C X107 d17_23 rfl rfl ?_
  have K114 : Keep h0 T107.heap [r, w] := (((Keep.refl h0 [r, w]).wr W102 (Or.inl (by simp))).trans K107 (allS (Or.inl (by simp)) (allS (Or.inl (by simp)) all0)))
  exact Go.retN C X107 rfl d17_24 (by simp) ⟨rfl, N107, K114, P107_0, P107_1, P107_2, P107_3⟩ (by decide) (by decide)
def Q_ad6 (Z : State) (r : Addr) (d : Addr) (w : Addr) (kw : ClassId) (mc : Int32) (h0 : Heap) (rv : Option Value) (h : Heap) (L : List Loc) : Prop := rv = none ∧ Fr Z.heap.size L ∧ Keep h0 h [r, w] ∧ Fld Z h r "java/util/AbstractList" "modCount" "I" (.int mc) ∧ Fld Z h r "java/util/ArrayList" "elementData" "[Ljava/lang/Object;" (.ref w) ∧ Fld Z h r "java/util/ArrayList" "size" "I" (.int (7 : Int32)) ∧ AL Z h w kw (.object "java/lang/Object") [(.ref d), (.ref d), (.ref d), (.ref d), (.ref d), (.ref d), (.ref d), .null, .null, .null]
set_option maxRecDepth 65536 in
set_option maxHeartbeats 40000000 in
theorem rm_ad6 (l : Launch) (Z : State) (a0 : Array Value) (hw : ∀ d ∈ tables_1, d.before a0 Z = true) (r : Addr) (d : Addr) (w : Addr) (kw : ClassId) (mc : Int32) (h0 : Heap) (O0 : Ext Z.heap h0) (E0 : Exa Z h0 r "java/util/ArrayList") (Ed : Exa Z h0 d "com/example/tranche/tranche/journal/DefaultRateChange") (F1 : Fld Z h0 r "java/util/AbstractList" "modCount" "I" (.int mc)) (F2 : Fld Z h0 r "java/util/ArrayList" "elementData" "[Ljava/lang/Object;" (.ref w)) (F3 : Fld Z h0 r "java/util/ArrayList" "size" "I" (.int (6 : Int32))) (Ew : Exa Z h0 w "[Ljava/lang/Object;") (Aw : AL Z h0 w kw (.object "java/lang/Object") [(.ref d), (.ref d), (.ref d), (.ref d), (.ref d), (.ref d), .null, .null, .null, .null]) (hn : Z.heap.size ≤ r) (hnw : Z.heap.size ≤ w) (ho : Ovr Z kw "java/lang/Object") :
    Met1 l Z (⟨"java/util/ArrayList", "add", "(Ljava/lang/Object;[Ljava/lang/Object;I)V"⟩ : MethodName) jdk_38_method_24_code 4 none ({ frames := 0, cells := 0, slots := 0, locals := 0 } : Room) #[(.ref r), (.ref d), (.ref w), (.int (6 : Int32))] h0 (Q_ad6 Z r d w kw mc h0) := by
  refine Met1.of_body (Ls := #[.val (.ref r), .val (.ref d), .val (.ref w), .val (.int (6 : Int32))]) pf_18 (fun m => by first | (simp [entryFrame, mkF, argsToLocals, Value.category]; done) | rfl) ?_
  intro p e s m below meth c T0 C X0 e0
  have N0 : Fr Z.heap.size [] := Fr.nil _
  refine Go.iloadN (pc' := 1) C X0 d18_0 rfl rfl ?_
  refine Go.aloadN (pc' := 2) C X0 d18_1 rfl rfl rfl ?_
  refine Go.alen (z := (10 : Int32)) (pc' := 3) C X0 e0 Aw rfl d18_2 rfl ?_
  refine Go.icmpYes (pc' := 11) C X0 d18_3 (feq (x := (6 : Int32)) (y := (10 : Int32)) (by decide)).2 (by decide) (by decide) ?_
  refine Go.aloadN (pc' := 12) C X0 d18_11 rfl rfl rfl ?_
  refine Go.iloadN (pc' := 13) C X0 d18_12 rfl rfl ?_
  refine Go.aloadN (pc' := 14) C X0 d18_13 rfl rfl rfl ?_
  refine Go.stR (i := 6) (vs' := [(.ref d), (.ref d), (.ref d), (.ref d), (.ref d), (.ref d), (.ref d), .null, .null, .null]) (pc' := 15) C X0 e0 Aw (by decide) (by decide) (by simp) rfl (AL.sto Aw ho (Ins.of_exa Ed (tw hw 149 rfl))) rfl d18_14 rfl ?_
  intro T102 h102 X102 e102 W102 A102
  have N102 := Fr.snoc X102 N0 hnw
  refine Go.aloadN (pc' := 16) C X102 d18_15 rfl rfl rfl ?_
  refine Go.iloadN (pc' := 17) C X102 d18_16 rfl rfl ?_
  refine Go.iconst (z := (1 : Int32)) (pc' := 18) C X102 d18_17 rfl rfl ?_
  refine Go.iadd (pc' := 19) C X102 d18_18 rfl ?_
  rw [show ((6 : Int32) + (1 : Int32)) = (7 : Int32) from by decide]
  have c104 : Exa Z h102 r "java/util/ArrayList" := (Exa.wr W102 E0)
  have c105 : Exa Z h102 w "[Ljava/lang/Object;" := (Exa.wr W102 Ew)
  have ne106 : r ≠ w := ne_exa c104 c105 (by decide)
  have c107 : Fld Z h102 r "java/util/ArrayList" "size" "I" (.int (6 : Int32)) := (Fld.other W102 F3 (Or.inl ne106))
  refine Go.putF (pc' := 22) (host := "") (ty := .int) C X102 (Or.inl (tw hw 109 rfl)) Via.refl e102 c107 c104 (Or.inl (tw hw 110 rfl)) (tw hw 56 rfl) (by decide) rfl rfl d18_19 rfl ?_
  intro T103 h103 X103 e103 W103 F103
  have N103 := Fr.snoc X103 N102 hn
  have K108 : Keep h0 h103 [r, w] := (((Keep.refl h0 [r, w]).wr W102 (Or.inl (by simp))).wr W103 (Or.inl (by simp)))
  have c109 : Fld Z h103 r "java/util/AbstractList" "modCount" "I" (.int mc) := (Fld.other W103 (Fld.other W102 F1 (Or.inl ne106)) (Or.inr (slot_ne (Or.inl (tw hw 75 rfl)) (Or.inl (tw hw 110 rfl)) (by decide) (t := .int) (t' := .int) (by decide) (by decide))))
  have c110 : Fld Z h103 r "java/util/ArrayList" "elementData" "[Ljava/lang/Object;" (.ref w) := (Fld.other W103 (Fld.other W102 F2 (Or.inl ne106)) (Or.inr (slot_ne (Or.inl (tw hw 78 rfl)) (Or.inl (tw hw 110 rfl)) (by decide) (t := (.array (.object "java/lang/Object"))) (t' := .int) (by decide) (by decide))))
  have c111 : AL Z h103 w kw (.object "java/lang/Object") [(.ref d), (.ref d), (.ref d), (.ref d), (.ref d), (.ref d), (.ref d), .null, .null, .null] := (AL.other W103 A102 (Ne.symm ne106))
  exact Go.retV C X103 rfl d18_22 (by rw [e103]; exact ⟨rfl, N103, K108, c109, c110, F103, c111⟩) (by decide) (by decide)
def Q_add6 (Z : State) (r : Addr) (d : Addr) (w : Addr) (kw : ClassId) (mc : Int32) (h0 : Heap) (rv : Option Value) (h : Heap) (L : List Loc) : Prop := rv = some (.int (1 : Int32)) ∧ Fr Z.heap.size L ∧ Keep h0 h [r, w] ∧ Fld Z h r "java/util/AbstractList" "modCount" "I" (.int (mc + (1 : Int32))) ∧ Fld Z h r "java/util/ArrayList" "elementData" "[Ljava/lang/Object;" (.ref w) ∧ Fld Z h r "java/util/ArrayList" "size" "I" (.int (7 : Int32)) ∧ AL Z h w kw (.object "java/lang/Object") [(.ref d), (.ref d), (.ref d), (.ref d), (.ref d), (.ref d), (.ref d), .null, .null, .null]
set_option maxRecDepth 65536 in
set_option maxHeartbeats 40000000 in
theorem rm_add6 (l : Launch) (Z : State) (a0 : Array Value) (hw : ∀ d ∈ tables_1, d.before a0 Z = true) (r : Addr) (d : Addr) (w : Addr) (kw : ClassId) (mc : Int32) (h0 : Heap) (O0 : Ext Z.heap h0) (E0 : Exa Z h0 r "java/util/ArrayList") (Ed : Exa Z h0 d "com/example/tranche/tranche/journal/DefaultRateChange") (F1 : Fld Z h0 r "java/util/AbstractList" "modCount" "I" (.int mc)) (F2 : Fld Z h0 r "java/util/ArrayList" "elementData" "[Ljava/lang/Object;" (.ref w)) (F3 : Fld Z h0 r "java/util/ArrayList" "size" "I" (.int (6 : Int32))) (Ew : Exa Z h0 w "[Ljava/lang/Object;") (Aw : AL Z h0 w kw (.object "java/lang/Object") [(.ref d), (.ref d), (.ref d), (.ref d), (.ref d), (.ref d), .null, .null, .null, .null]) (hn : Z.heap.size ≤ r) (hnw : Z.heap.size ≤ w) (ho : Ovr Z kw "java/lang/Object") :
    Met1 l Z (⟨"java/util/ArrayList", "add", "(Ljava/lang/Object;)Z"⟩ : MethodName) jdk_38_method_25_code 2 (some .boolean) ({ frames := 1, cells := 0, slots := 0, locals := 15 } : Room) #[(.ref r), (.ref d)] h0 (Q_add6 Z r d w kw mc h0) := by
  refine Met1.of_body (Ls := #[.val (.ref r), .val (.ref d)]) pf_17 (fun m => by first | (simp [entryFrame, mkF, argsToLocals, Value.category]; done) | rfl) ?_
  intro p e s m below meth c T0 C X0 e0
  have N0 : Fr Z.heap.size [] := Fr.nil _
  refine Go.aloadN (pc' := 1) C X0 d17_0 rfl rfl rfl ?_
  refine Go.dup (pc' := 2) C X0 d17_1 rfl rfl ?_
  refine Go.getF (pc' := 5) (host := "") C X0 (Or.inl (tw hw 126 rfl)) (Via.of (tw hw 127 rfl)) e0 F1 d17_2 rfl ?_
  intro T101 X101 e101
  refine Go.iconst (z := (1 : Int32)) (pc' := 6) C X101 d17_5 rfl rfl ?_
  refine Go.iadd (pc' := 7) C X101 d17_6 rfl ?_
  refine Go.putF (pc' := 10) (host := "") (ty := .int) C X101 (Or.inl (tw hw 126 rfl)) (Via.of (tw hw 127 rfl)) e101 F1 E0 (Or.inl (tw hw 75 rfl)) (tw hw 56 rfl) (by decide) rfl rfl d17_7 rfl ?_
  intro T102 h102 X102 e102 W102 F102
  have N102 := Fr.snoc X102 N0 hn
  refine Go.aloadN (pc' := 11) C X102 d17_10 rfl rfl rfl ?_
  refine Go.aloadN (pc' := 12) C X102 d17_11 rfl rfl rfl ?_
  refine Go.aloadN (pc' := 13) C X102 d17_12 rfl rfl rfl ?_
  have c104 : Fld Z h102 r "java/util/ArrayList" "elementData" "[Ljava/lang/Object;" (.ref w) := (Fld.other W102 F2 (Or.inr (slot_ne (Or.inl (tw hw 78 rfl)) (Or.inl (tw hw 75 rfl)) (by decide) (t := (.array (.object "java/lang/Object"))) (t' := .int) (by decide) (by decide))))
  refine Go.getF (pc' := 16) (host := "") C X102 (Or.inl (tw hw 77 rfl)) Via.refl e102 c104 d17_13 rfl ?_
  intro T103 X103 e103
  refine Go.aloadN (pc' := 17) C X103 d17_16 rfl rfl rfl ?_
  have c106 : Fld Z h102 r "java/util/ArrayList" "size" "I" (.int (6 : Int32)) := (Fld.other W102 F3 (Or.inr (slot_ne (Or.inl (tw hw 110 rfl)) (Or.inl (tw hw 75 rfl)) (by decide) (t := .int) (t' := .int) (by decide) (by decide))))
  refine Go.getF (pc' := 20) (host := "") C X103 (Or.inl (tw hw 109 rfl)) Via.refl e103 c106 d17_17 rfl ?_
  intro T105 X105 e105
  have c108 : Exa Z h102 r "java/util/ArrayList" := (Exa.wr W102 E0)
  have c109 : Exa Z h102 d "com/example/tranche/tranche/journal/DefaultRateChange" := (Exa.wr W102 Ed)
  have c110 : Exa Z h102 w "[Ljava/lang/Object;" := (Exa.wr W102 Ew)
  have ne111 : w ≠ r := ne_exa c110 c108 (by decide)
  have c112 : AL Z h102 w kw (.object "java/lang/Object") [(.ref d), (.ref d), (.ref d), (.ref d), (.ref d), (.ref d), .null, .null, .null, .null] := (AL.other W102 Aw ne111)
  have O113 : Ext Z.heap h102 := (Ext.wr O0 W102 hn)
  refine Go.callP (y := (⟨"java/util/ArrayList", "add", "(Ljava/lang/Object;[Ljava/lang/Object;I)V"⟩ : MethodName)) (a := r) (pc' := 23) C X105 (tw hw 128 rfl) (tw hw 129 rfl) (tw hw 131 rfl) (tw hw 130 rfl) c108 (by decide) (rm_ad6 l Z a0 hw r d w kw ((mc + (1 : Int32))) h102 O113 c108 c109 F102 c104 c106 c110 c112 hn hnw ho) (tw hw 132 rfl) (tw hw 57 rfl) e105 (argsL := [(.ref d), (.ref w), (.int (6 : Int32))]) (rest := []) (W := 0) rfl rfl pd_7 rfl (Nat.le_of_eq rfl) rfl (by decide) (by decide) (by decide) (by decide) d17_20 rfl ?_
  intro T107 v107 L107 X107 q107
  obtain ⟨rfl, N107q, K107, P107_0, P107_1, P107_2, P107_3⟩ := q107
  have N107 := Fr.app N102 N107q
  refine Go.iconst (z := (1 : Int32)) (pc' := 24) C X107 d17_23 rfl rfl ?_
  have K114 : Keep h0 T107.heap [r, w] := (((Keep.refl h0 [r, w]).wr W102 (Or.inl (by simp))).trans K107 (allS (Or.inl (by simp)) (allS (Or.inl (by simp)) all0)))
  exact Go.retN C X107 rfl d17_24 (by simp) ⟨rfl, N107, K114, P107_0, P107_1, P107_2, P107_3⟩ (by decide) (by decide)
def Q_ad7 (Z : State) (r : Addr) (d : Addr) (w : Addr) (kw : ClassId) (mc : Int32) (h0 : Heap) (rv : Option Value) (h : Heap) (L : List Loc) : Prop := rv = none ∧ Fr Z.heap.size L ∧ Keep h0 h [r, w] ∧ Fld Z h r "java/util/AbstractList" "modCount" "I" (.int mc) ∧ Fld Z h r "java/util/ArrayList" "elementData" "[Ljava/lang/Object;" (.ref w) ∧ Fld Z h r "java/util/ArrayList" "size" "I" (.int (8 : Int32)) ∧ AL Z h w kw (.object "java/lang/Object") [(.ref d), (.ref d), (.ref d), (.ref d), (.ref d), (.ref d), (.ref d), (.ref d), .null, .null]
set_option maxRecDepth 65536 in
set_option maxHeartbeats 40000000 in
theorem rm_ad7 (l : Launch) (Z : State) (a0 : Array Value) (hw : ∀ d ∈ tables_1, d.before a0 Z = true) (r : Addr) (d : Addr) (w : Addr) (kw : ClassId) (mc : Int32) (h0 : Heap) (O0 : Ext Z.heap h0) (E0 : Exa Z h0 r "java/util/ArrayList") (Ed : Exa Z h0 d "com/example/tranche/tranche/journal/DefaultRateChange") (F1 : Fld Z h0 r "java/util/AbstractList" "modCount" "I" (.int mc)) (F2 : Fld Z h0 r "java/util/ArrayList" "elementData" "[Ljava/lang/Object;" (.ref w)) (F3 : Fld Z h0 r "java/util/ArrayList" "size" "I" (.int (7 : Int32))) (Ew : Exa Z h0 w "[Ljava/lang/Object;") (Aw : AL Z h0 w kw (.object "java/lang/Object") [(.ref d), (.ref d), (.ref d), (.ref d), (.ref d), (.ref d), (.ref d), .null, .null, .null]) (hn : Z.heap.size ≤ r) (hnw : Z.heap.size ≤ w) (ho : Ovr Z kw "java/lang/Object") :
    Met1 l Z (⟨"java/util/ArrayList", "add", "(Ljava/lang/Object;[Ljava/lang/Object;I)V"⟩ : MethodName) jdk_38_method_24_code 4 none ({ frames := 0, cells := 0, slots := 0, locals := 0 } : Room) #[(.ref r), (.ref d), (.ref w), (.int (7 : Int32))] h0 (Q_ad7 Z r d w kw mc h0) := by
  refine Met1.of_body (Ls := #[.val (.ref r), .val (.ref d), .val (.ref w), .val (.int (7 : Int32))]) pf_18 (fun m => by first | (simp [entryFrame, mkF, argsToLocals, Value.category]; done) | rfl) ?_
  intro p e s m below meth c T0 C X0 e0
  have N0 : Fr Z.heap.size [] := Fr.nil _
  refine Go.iloadN (pc' := 1) C X0 d18_0 rfl rfl ?_
  refine Go.aloadN (pc' := 2) C X0 d18_1 rfl rfl rfl ?_
  refine Go.alen (z := (10 : Int32)) (pc' := 3) C X0 e0 Aw rfl d18_2 rfl ?_
  refine Go.icmpYes (pc' := 11) C X0 d18_3 (feq (x := (7 : Int32)) (y := (10 : Int32)) (by decide)).2 (by decide) (by decide) ?_
  refine Go.aloadN (pc' := 12) C X0 d18_11 rfl rfl rfl ?_
  refine Go.iloadN (pc' := 13) C X0 d18_12 rfl rfl ?_
  refine Go.aloadN (pc' := 14) C X0 d18_13 rfl rfl rfl ?_
  refine Go.stR (i := 7) (vs' := [(.ref d), (.ref d), (.ref d), (.ref d), (.ref d), (.ref d), (.ref d), (.ref d), .null, .null]) (pc' := 15) C X0 e0 Aw (by decide) (by decide) (by simp) rfl (AL.sto Aw ho (Ins.of_exa Ed (tw hw 149 rfl))) rfl d18_14 rfl ?_
  intro T102 h102 X102 e102 W102 A102
  have N102 := Fr.snoc X102 N0 hnw
  refine Go.aloadN (pc' := 16) C X102 d18_15 rfl rfl rfl ?_
  refine Go.iloadN (pc' := 17) C X102 d18_16 rfl rfl ?_
  refine Go.iconst (z := (1 : Int32)) (pc' := 18) C X102 d18_17 rfl rfl ?_
  refine Go.iadd (pc' := 19) C X102 d18_18 rfl ?_
  rw [show ((7 : Int32) + (1 : Int32)) = (8 : Int32) from by decide]
  have c104 : Exa Z h102 r "java/util/ArrayList" := (Exa.wr W102 E0)
  have c105 : Exa Z h102 w "[Ljava/lang/Object;" := (Exa.wr W102 Ew)
  have ne106 : r ≠ w := ne_exa c104 c105 (by decide)
  have c107 : Fld Z h102 r "java/util/ArrayList" "size" "I" (.int (7 : Int32)) := (Fld.other W102 F3 (Or.inl ne106))
  refine Go.putF (pc' := 22) (host := "") (ty := .int) C X102 (Or.inl (tw hw 109 rfl)) Via.refl e102 c107 c104 (Or.inl (tw hw 110 rfl)) (tw hw 56 rfl) (by decide) rfl rfl d18_19 rfl ?_
  intro T103 h103 X103 e103 W103 F103
  have N103 := Fr.snoc X103 N102 hn
  have K108 : Keep h0 h103 [r, w] := (((Keep.refl h0 [r, w]).wr W102 (Or.inl (by simp))).wr W103 (Or.inl (by simp)))
  have c109 : Fld Z h103 r "java/util/AbstractList" "modCount" "I" (.int mc) := (Fld.other W103 (Fld.other W102 F1 (Or.inl ne106)) (Or.inr (slot_ne (Or.inl (tw hw 75 rfl)) (Or.inl (tw hw 110 rfl)) (by decide) (t := .int) (t' := .int) (by decide) (by decide))))
  have c110 : Fld Z h103 r "java/util/ArrayList" "elementData" "[Ljava/lang/Object;" (.ref w) := (Fld.other W103 (Fld.other W102 F2 (Or.inl ne106)) (Or.inr (slot_ne (Or.inl (tw hw 78 rfl)) (Or.inl (tw hw 110 rfl)) (by decide) (t := (.array (.object "java/lang/Object"))) (t' := .int) (by decide) (by decide))))
  have c111 : AL Z h103 w kw (.object "java/lang/Object") [(.ref d), (.ref d), (.ref d), (.ref d), (.ref d), (.ref d), (.ref d), (.ref d), .null, .null] := (AL.other W103 A102 (Ne.symm ne106))
  exact Go.retV C X103 rfl d18_22 (by rw [e103]; exact ⟨rfl, N103, K108, c109, c110, F103, c111⟩) (by decide) (by decide)
def Q_add7 (Z : State) (r : Addr) (d : Addr) (w : Addr) (kw : ClassId) (mc : Int32) (h0 : Heap) (rv : Option Value) (h : Heap) (L : List Loc) : Prop := rv = some (.int (1 : Int32)) ∧ Fr Z.heap.size L ∧ Keep h0 h [r, w] ∧ Fld Z h r "java/util/AbstractList" "modCount" "I" (.int (mc + (1 : Int32))) ∧ Fld Z h r "java/util/ArrayList" "elementData" "[Ljava/lang/Object;" (.ref w) ∧ Fld Z h r "java/util/ArrayList" "size" "I" (.int (8 : Int32)) ∧ AL Z h w kw (.object "java/lang/Object") [(.ref d), (.ref d), (.ref d), (.ref d), (.ref d), (.ref d), (.ref d), (.ref d), .null, .null]
set_option maxRecDepth 65536 in
set_option maxHeartbeats 40000000 in
theorem rm_add7 (l : Launch) (Z : State) (a0 : Array Value) (hw : ∀ d ∈ tables_1, d.before a0 Z = true) (r : Addr) (d : Addr) (w : Addr) (kw : ClassId) (mc : Int32) (h0 : Heap) (O0 : Ext Z.heap h0) (E0 : Exa Z h0 r "java/util/ArrayList") (Ed : Exa Z h0 d "com/example/tranche/tranche/journal/DefaultRateChange") (F1 : Fld Z h0 r "java/util/AbstractList" "modCount" "I" (.int mc)) (F2 : Fld Z h0 r "java/util/ArrayList" "elementData" "[Ljava/lang/Object;" (.ref w)) (F3 : Fld Z h0 r "java/util/ArrayList" "size" "I" (.int (7 : Int32))) (Ew : Exa Z h0 w "[Ljava/lang/Object;") (Aw : AL Z h0 w kw (.object "java/lang/Object") [(.ref d), (.ref d), (.ref d), (.ref d), (.ref d), (.ref d), (.ref d), .null, .null, .null]) (hn : Z.heap.size ≤ r) (hnw : Z.heap.size ≤ w) (ho : Ovr Z kw "java/lang/Object") :
    Met1 l Z (⟨"java/util/ArrayList", "add", "(Ljava/lang/Object;)Z"⟩ : MethodName) jdk_38_method_25_code 2 (some .boolean) ({ frames := 1, cells := 0, slots := 0, locals := 15 } : Room) #[(.ref r), (.ref d)] h0 (Q_add7 Z r d w kw mc h0) := by
  refine Met1.of_body (Ls := #[.val (.ref r), .val (.ref d)]) pf_17 (fun m => by first | (simp [entryFrame, mkF, argsToLocals, Value.category]; done) | rfl) ?_
  intro p e s m below meth c T0 C X0 e0
  have N0 : Fr Z.heap.size [] := Fr.nil _
  refine Go.aloadN (pc' := 1) C X0 d17_0 rfl rfl rfl ?_
  refine Go.dup (pc' := 2) C X0 d17_1 rfl rfl ?_
  refine Go.getF (pc' := 5) (host := "") C X0 (Or.inl (tw hw 126 rfl)) (Via.of (tw hw 127 rfl)) e0 F1 d17_2 rfl ?_
  intro T101 X101 e101
  refine Go.iconst (z := (1 : Int32)) (pc' := 6) C X101 d17_5 rfl rfl ?_
  refine Go.iadd (pc' := 7) C X101 d17_6 rfl ?_
  refine Go.putF (pc' := 10) (host := "") (ty := .int) C X101 (Or.inl (tw hw 126 rfl)) (Via.of (tw hw 127 rfl)) e101 F1 E0 (Or.inl (tw hw 75 rfl)) (tw hw 56 rfl) (by decide) rfl rfl d17_7 rfl ?_
  intro T102 h102 X102 e102 W102 F102
  have N102 := Fr.snoc X102 N0 hn
  refine Go.aloadN (pc' := 11) C X102 d17_10 rfl rfl rfl ?_
  refine Go.aloadN (pc' := 12) C X102 d17_11 rfl rfl rfl ?_
  refine Go.aloadN (pc' := 13) C X102 d17_12 rfl rfl rfl ?_
  have c104 : Fld Z h102 r "java/util/ArrayList" "elementData" "[Ljava/lang/Object;" (.ref w) := (Fld.other W102 F2 (Or.inr (slot_ne (Or.inl (tw hw 78 rfl)) (Or.inl (tw hw 75 rfl)) (by decide) (t := (.array (.object "java/lang/Object"))) (t' := .int) (by decide) (by decide))))
  refine Go.getF (pc' := 16) (host := "") C X102 (Or.inl (tw hw 77 rfl)) Via.refl e102 c104 d17_13 rfl ?_
  intro T103 X103 e103
  refine Go.aloadN (pc' := 17) C X103 d17_16 rfl rfl rfl ?_
  have c106 : Fld Z h102 r "java/util/ArrayList" "size" "I" (.int (7 : Int32)) := (Fld.other W102 F3 (Or.inr (slot_ne (Or.inl (tw hw 110 rfl)) (Or.inl (tw hw 75 rfl)) (by decide) (t := .int) (t' := .int) (by decide) (by decide))))
  refine Go.getF (pc' := 20) (host := "") C X103 (Or.inl (tw hw 109 rfl)) Via.refl e103 c106 d17_17 rfl ?_
  intro T105 X105 e105
  have c108 : Exa Z h102 r "java/util/ArrayList" := (Exa.wr W102 E0)
  have c109 : Exa Z h102 d "com/example/tranche/tranche/journal/DefaultRateChange" := (Exa.wr W102 Ed)
  have c110 : Exa Z h102 w "[Ljava/lang/Object;" := (Exa.wr W102 Ew)
  have ne111 : w ≠ r := ne_exa c110 c108 (by decide)
  have c112 : AL Z h102 w kw (.object "java/lang/Object") [(.ref d), (.ref d), (.ref d), (.ref d), (.ref d), (.ref d), (.ref d), .null, .null, .null] := (AL.other W102 Aw ne111)
  have O113 : Ext Z.heap h102 := (Ext.wr O0 W102 hn)
  refine Go.callP (y := (⟨"java/util/ArrayList", "add", "(Ljava/lang/Object;[Ljava/lang/Object;I)V"⟩ : MethodName)) (a := r) (pc' := 23) C X105 (tw hw 128 rfl) (tw hw 129 rfl) (tw hw 131 rfl) (tw hw 130 rfl) c108 (by decide) (rm_ad7 l Z a0 hw r d w kw ((mc + (1 : Int32))) h102 O113 c108 c109 F102 c104 c106 c110 c112 hn hnw ho) (tw hw 132 rfl) (tw hw 57 rfl) e105 (argsL := [(.ref d), (.ref w), (.int (7 : Int32))]) (rest := []) (W := 0) rfl rfl pd_7 rfl (Nat.le_of_eq rfl) rfl (by decide) (by decide) (by decide) (by decide) d17_20 rfl ?_
  intro T107 v107 L107 X107 q107
  obtain ⟨rfl, N107q, K107, P107_0, P107_1, P107_2, P107_3⟩ := q107
  have N107 := Fr.app N102 N107q
  refine Go.iconst (z := (1 : Int32)) (pc' := 24) C X107 d17_23 rfl rfl ?_
  have K114 : Keep h0 T107.heap [r, w] := (((Keep.refl h0 [r, w]).wr W102 (Or.inl (by simp))).trans K107 (allS (Or.inl (by simp)) (allS (Or.inl (by simp)) all0)))
  exact Go.retN C X107 rfl d17_24 (by simp) ⟨rfl, N107, K114, P107_0, P107_1, P107_2, P107_3⟩ (by decide) (by decide)
theorem pf_30 : plainFor (⟨"java/util/Objects", "requireNonNull", "(Ljava/lang/Object;)Ljava/lang/Object;"⟩ : MethodName) = true := plainFor_of_name (by first | (simp [plainName, overriddenIn]; done) | decide +kernel)
theorem d30_0 : decode jdk_31_method_10_code 0 = .ok (.aload_n 0, 1) := by decide +kernel
theorem d30_1 : decode jdk_31_method_10_code 1 = .ok (.ifnonnull 11, 3) := by decide +kernel
theorem d30_12 : decode jdk_31_method_10_code 12 = .ok (.aload_n 0, 1) := by decide +kernel
theorem d30_13 : decode jdk_31_method_10_code 13 = .ok (.areturn, 1) := by decide +kernel
def Q_rn (Z : State) (d : Addr) (h0 : Heap) (rv : Option Value) (h : Heap) (L : List Loc) : Prop := rv = some (.ref d) ∧ L = [] ∧ h = h0
set_option maxRecDepth 65536 in
set_option maxHeartbeats 40000000 in
theorem rm_rn (l : Launch) (Z : State) (a0 : Array Value) (hw : ∀ d ∈ tables_1, d.before a0 Z = true) (d : Addr) (h0 : Heap) (O0 : Ext Z.heap h0) :
    Met1 l Z (⟨"java/util/Objects", "requireNonNull", "(Ljava/lang/Object;)Ljava/lang/Object;"⟩ : MethodName) jdk_31_method_10_code 1 (some (.object "java/lang/Object")) ({ frames := 0, cells := 0, slots := 0, locals := 0 } : Room) #[(.ref d)] h0 (Q_rn Z d h0) := by
  refine Met1.of_body (Ls := #[.val (.ref d)]) pf_30 (fun m => by first | (simp [entryFrame, mkF, argsToLocals, Value.category]; done) | rfl) ?_
  intro p e s m below meth c T0 C X0 e0
  have N0 : Fr Z.heap.size [] := Fr.nil _
  refine Go.aloadN (pc' := 1) C X0 d30_0 rfl rfl rfl ?_
  refine Go.ifnonnullYes (pc' := 12) C X0 d30_1 (by decide) (by decide) ?_
  refine Go.aloadN (pc' := 13) C X0 d30_12 rfl rfl rfl ?_
  exact Go.retA C X0 rfl d30_13 rfl rfl rfl (by rw [e0]; exact ⟨rfl, rfl, rfl⟩) (by decide) (by decide)
theorem pf_33 : plainFor (⟨"java/util/ImmutableCollections$AbstractImmutableCollection", "<init>", "()V"⟩ : MethodName) = true := plainFor_of_name (by first | (simp [plainName, overriddenIn]; done) | decide +kernel)
theorem d33_0 : decode jdk_47_method_1_code 0 = .ok (.aload_n 0, 1) := by decide +kernel
theorem d33_1 : decode jdk_47_method_1_code 1 = .ok (.invokespecial 1, 3) := by decide +kernel
theorem d33_4 : decode jdk_47_method_1_code 4 = .ok (.return_, 1) := by decide +kernel
def Q_aic (Z : State) (r : Addr) (h0 : Heap) (rv : Option Value) (h : Heap) (L : List Loc) : Prop := rv = none ∧ L = [] ∧ h = h0
set_option maxRecDepth 65536 in
set_option maxHeartbeats 40000000 in
theorem rm_aic (l : Launch) (Z : State) (a0 : Array Value) (hw : ∀ d ∈ tables_1, d.before a0 Z = true) (r : Addr) (h0 : Heap) (O0 : Ext Z.heap h0) :
    Met1 l Z (⟨"java/util/ImmutableCollections$AbstractImmutableCollection", "<init>", "()V"⟩ : MethodName) jdk_47_method_1_code 1 none ({ frames := 2, cells := 0, slots := 0, locals := 24 } : Room) #[(.ref r)] h0 (Q_aic Z r h0) := by
  refine Met1.of_body (Ls := #[.val (.ref r)]) pf_33 (fun m => by first | (simp [entryFrame, mkF, argsToLocals, Value.category]; done) | rfl) ?_
  intro p e s m below meth c T0 C X0 e0
  have N0 : Fr Z.heap.size [] := Fr.nil _
  refine Go.aloadN (pc' := 1) C X0 d33_0 rfl rfl rfl ?_
  refine Go.callI (y := (⟨"java/util/AbstractCollection", "<init>", "()V"⟩ : MethodName)) (a := r) (pc' := 4) C X0 rfl (tw hw 225 rfl) (tw hw 68 rfl) (by decide) (rm_ac l Z a0 hw r h0 O0 ) (tw hw 72 rfl) (tw hw 71 rfl) e0 (argsL := []) (rest := []) (W := 0) rfl rfl pd_3 rfl (Nat.le_of_eq rfl) rfl (by decide) (by decide) (by decide) (by decide) rfl d33_1 rfl ?_
  intro T101 v101 L101 X101 q101
  obtain ⟨rfl, rfl, e101⟩ := q101
  have N101 := Fr.app N0 (Fr.nil _)
  exact Go.retV C X101 rfl d33_4 (by rw [e101]; exact ⟨rfl, (by simp), rfl⟩) (by decide) (by decide)
theorem pf_32 : plainFor (⟨"java/util/ImmutableCollections$AbstractImmutableList", "<init>", "()V"⟩ : MethodName) = true := plainFor_of_name (by first | (simp [plainName, overriddenIn]; done) | decide +kernel)
theorem d32_0 : decode jdk_46_method_1_code 0 = .ok (.aload_n 0, 1) := by decide +kernel
theorem d32_1 : decode jdk_46_method_1_code 1 = .ok (.invokespecial 1, 3) := by decide +kernel
theorem d32_4 : decode jdk_46_method_1_code 4 = .ok (.return_, 1) := by decide +kernel
def Q_ail (Z : State) (r : Addr) (h0 : Heap) (rv : Option Value) (h : Heap) (L : List Loc) : Prop := rv = none ∧ L = [] ∧ h = h0
set_option maxRecDepth 65536 in
set_option maxHeartbeats 40000000 in
theorem rm_ail (l : Launch) (Z : State) (a0 : Array Value) (hw : ∀ d ∈ tables_1, d.before a0 Z = true) (r : Addr) (h0 : Heap) (O0 : Ext Z.heap h0) :
    Met1 l Z (⟨"java/util/ImmutableCollections$AbstractImmutableList", "<init>", "()V"⟩ : MethodName) jdk_46_method_1_code 1 none ({ frames := 3, cells := 0, slots := 0, locals := 36 } : Room) #[(.ref r)] h0 (Q_ail Z r h0) := by
  refine Met1.of_body (Ls := #[.val (.ref r)]) pf_32 (fun m => by first | (simp [entryFrame, mkF, argsToLocals, Value.category]; done) | rfl) ?_
  intro p e s m below meth c T0 C X0 e0
  have N0 : Fr Z.heap.size [] := Fr.nil _
  refine Go.aloadN (pc' := 1) C X0 d32_0 rfl rfl rfl ?_
  refine Go.callI (y := (⟨"java/util/ImmutableCollections$AbstractImmutableCollection", "<init>", "()V"⟩ : MethodName)) (a := r) (pc' := 4) C X0 rfl (tw hw 219 rfl) (tw hw 220 rfl) (by decide) (rm_aic l Z a0 hw r h0 O0 ) (tw hw 224 rfl) (tw hw 223 rfl) e0 (argsL := []) (rest := []) (W := 0) rfl rfl pd_3 rfl (Nat.le_of_eq rfl) rfl (by decide) (by decide) (by decide) (by decide) rfl d32_1 rfl ?_
  intro T101 v101 L101 X101 q101
  obtain ⟨rfl, rfl, e101⟩ := q101
  have N101 := Fr.app N0 (Fr.nil _)
  exact Go.retV C X101 rfl d32_4 (by rw [e101]; exact ⟨rfl, (by simp), rfl⟩) (by decide) (by decide)
theorem pf_31 : plainFor (⟨"java/util/ImmutableCollections$ListN", "<init>", "([Ljava/lang/Object;Z)V"⟩ : MethodName) = true := plainFor_of_name (by first | (simp [plainName, overriddenIn]; done) | decide +kernel)
theorem d31_0 : decode jdk_45_method_1_code 0 = .ok (.aload_n 0, 1) := by decide +kernel
theorem d31_1 : decode jdk_45_method_1_code 1 = .ok (.invokespecial 1, 3) := by decide +kernel
theorem d31_4 : decode jdk_45_method_1_code 4 = .ok (.aload_n 0, 1) := by decide +kernel
theorem d31_5 : decode jdk_45_method_1_code 5 = .ok (.aload_n 1, 1) := by decide +kernel
theorem d31_6 : decode jdk_45_method_1_code 6 = .ok (.putfield 7, 3) := by decide +kernel
theorem d31_9 : decode jdk_45_method_1_code 9 = .ok (.aload_n 0, 1) := by decide +kernel
theorem d31_10 : decode jdk_45_method_1_code 10 = .ok (.iload_n 2, 1) := by decide +kernel
theorem d31_11 : decode jdk_45_method_1_code 11 = .ok (.putfield 13, 3) := by decide +kernel
theorem d31_14 : decode jdk_45_method_1_code 14 = .ok (.return_, 1) := by decide +kernel
def Q_lnI (Z : State) (r : Addr) (v : Addr) (h0 : Heap) (rv : Option Value) (h : Heap) (L : List Loc) : Prop := rv = none ∧ Fr Z.heap.size L ∧ Keep h0 h [r] ∧ Fld Z h r "java/util/ImmutableCollections$ListN" "elements" "[Ljava/lang/Object;" (.ref v)
set_option maxRecDepth 65536 in
set_option maxHeartbeats 40000000 in
theorem rm_lnI (l : Launch) (Z : State) (a0 : Array Value) (hw : ∀ d ∈ tables_1, d.before a0 Z = true) (r : Addr) (v : Addr) (h0 : Heap) (O0 : Ext Z.heap h0) (E0 : Exa Z h0 r "java/util/ImmutableCollections$ListN") (F1 : Fld Z h0 r "java/util/ImmutableCollections$ListN" "elements" "[Ljava/lang/Object;" .null) (F2 : Fld Z h0 r "java/util/ImmutableCollections$ListN" "allowNulls" "Z" (.int (0 : Int32))) (hn : Z.heap.size ≤ r) :
    Met1 l Z (⟨"java/util/ImmutableCollections$ListN", "<init>", "([Ljava/lang/Object;Z)V"⟩ : MethodName) jdk_45_method_1_code 3 none ({ frames := 4, cells := 0, slots := 0, locals := 48 } : Room) #[(.ref r), (.ref v), (.int (0 : Int32))] h0 (Q_lnI Z r v h0) := by
  refine Met1.of_body (Ls := #[.val (.ref r), .val (.ref v), .val (.int (0 : Int32))]) pf_31 (fun m => by first | (simp [entryFrame, mkF, argsToLocals, Value.category]; done) | rfl) ?_
  intro p e s m below meth c T0 C X0 e0
  have N0 : Fr Z.heap.size [] := Fr.nil _
  refine Go.aloadN (pc' := 1) C X0 d31_0 rfl rfl rfl ?_
  refine Go.callI (y := (⟨"java/util/ImmutableCollections$AbstractImmutableList", "<init>", "()V"⟩ : MethodName)) (a := r) (pc' := 4) C X0 rfl (tw hw 213 rfl) (tw hw 214 rfl) (by decide) (rm_ail l Z a0 hw r h0 O0 ) (tw hw 218 rfl) (tw hw 217 rfl) e0 (argsL := []) (rest := []) (W := 0) rfl rfl pd_3 rfl (Nat.le_of_eq rfl) rfl (by decide) (by decide) (by decide) (by decide) rfl d31_1 rfl ?_
  intro T101 v101 L101 X101 q101
  obtain ⟨rfl, rfl, e101⟩ := q101
  have N101 := Fr.app N0 (Fr.nil _)
  refine Go.aloadN (pc' := 5) C X101 d31_4 rfl rfl rfl ?_
  refine Go.aloadN (pc' := 6) C X101 d31_5 rfl rfl rfl ?_
  refine Go.putF (pc' := 9) (host := "") (ty := (.array (.object "java/lang/Object"))) C X101 (Or.inl (tw hw 165 rfl)) Via.refl e101 F1 E0 (Or.inr ⟨(tw hw 166 rfl), rfl, rfl⟩) (tw hw 208 rfl) (by decide) rfl rfl d31_6 rfl ?_
  intro T102 h102 X102 e102 W102 F102
  have N102 := Fr.snoc X102 N101 hn
  refine Go.aloadN (pc' := 10) C X102 d31_9 rfl rfl rfl ?_
  refine Go.iloadN (pc' := 11) C X102 d31_10 rfl rfl ?_
  have c104 : Fld Z h102 r "java/util/ImmutableCollections$ListN" "allowNulls" "Z" (.int (0 : Int32)) := (Fld.other W102 F2 (Or.inr (slot_ne (Or.inr (tw hw 228 rfl)) (Or.inr (tw hw 166 rfl)) (by decide) (t := .boolean) (t' := (.array (.object "java/lang/Object"))) (by decide) (by decide))))
  have c105 : Exa Z h102 r "java/util/ImmutableCollections$ListN" := (Exa.wr W102 E0)
  refine Go.putFN (pc' := 14) (ty := .boolean) (v' := .int (0 : Int32)) C X102 (tw hw 227 rfl) Via.refl e102 c104 c105 (Or.inr ⟨(tw hw 228 rfl), rfl, rfl⟩) (tw hw 208 rfl) (by decide) rfl (by decide) d31_11 rfl ?_
  intro T103 h103 X103 e103 W103 F103
  have N103 := Fr.snoc X103 N102 hn
  have K106 : Keep h0 h103 [r] := (((Keep.refl h0 [r]).wr W102 (Or.inl (by simp))).wr W103 (Or.inl (by simp)))
  have c107 : Fld Z h103 r "java/util/ImmutableCollections$ListN" "elements" "[Ljava/lang/Object;" (.ref v) := (Fld.other W103 F102 (Or.inr (slot_ne (Or.inr (tw hw 166 rfl)) (Or.inr (tw hw 228 rfl)) (by decide) (t := (.array (.object "java/lang/Object"))) (t' := .boolean) (by decide) (by decide))))
  exact Go.retV C X103 rfl d31_14 (by rw [e103]; exact ⟨rfl, N103, K106, c107⟩) (by decide) (by decide)
theorem pd_8 : parseMethodDescriptor "(Ljava/lang/Object;)Ljava/lang/Object;" = some ⟨[(.object "java/lang/Object")], some (.object "java/lang/Object")⟩ := by decide +kernel
theorem pf_34 : plainFor (⟨"java/util/ImmutableCollections$List12", "<init>", "(Ljava/lang/Object;Ljava/lang/Object;)V"⟩ : MethodName) = true := plainFor_of_name (by first | (simp [plainName, overriddenIn]; done) | decide +kernel)
theorem d34_0 : decode jdk_44_method_2_code 0 = .ok (.aload_n 0, 1) := by decide +kernel
theorem d34_1 : decode jdk_44_method_2_code 1 = .ok (.invokespecial 1, 3) := by decide +kernel
theorem d34_4 : decode jdk_44_method_2_code 4 = .ok (.aload_n 0, 1) := by decide +kernel
theorem d34_5 : decode jdk_44_method_2_code 5 = .ok (.aload_n 1, 1) := by decide +kernel
theorem d34_6 : decode jdk_44_method_2_code 6 = .ok (.invokestatic 7, 3) := by decide +kernel
theorem d34_9 : decode jdk_44_method_2_code 9 = .ok (.putfield 13, 3) := by decide +kernel
theorem d34_12 : decode jdk_44_method_2_code 12 = .ok (.aload_n 0, 1) := by decide +kernel
theorem d34_13 : decode jdk_44_method_2_code 13 = .ok (.aload_n 2, 1) := by decide +kernel
theorem d34_14 : decode jdk_44_method_2_code 14 = .ok (.invokestatic 7, 3) := by decide +kernel
theorem d34_17 : decode jdk_44_method_2_code 17 = .ok (.putfield 24, 3) := by decide +kernel
theorem d34_20 : decode jdk_44_method_2_code 20 = .ok (.return_, 1) := by decide +kernel
def Q_l2I (Z : State) (r : Addr) (d : Addr) (h0 : Heap) (rv : Option Value) (h : Heap) (L : List Loc) : Prop := rv = none ∧ Fr Z.heap.size L ∧ Keep h0 h [r] ∧ Fld Z h r "java/util/ImmutableCollections$List12" "e1" "Ljava/lang/Object;" (.ref d)
set_option maxRecDepth 65536 in
set_option maxHeartbeats 40000000 in
theorem rm_l2I (l : Launch) (Z : State) (a0 : Array Value) (hw : ∀ d ∈ tables_1, d.before a0 Z = true) (r : Addr) (d : Addr) (h0 : Heap) (O0 : Ext Z.heap h0) (E0 : Exa Z h0 r "java/util/ImmutableCollections$List12") (F1 : Fld Z h0 r "java/util/ImmutableCollections$List12" "e0" "Ljava/lang/Object;" .null) (F2 : Fld Z h0 r "java/util/ImmutableCollections$List12" "e1" "Ljava/lang/Object;" .null) (hn : Z.heap.size ≤ r) :
    Met1 l Z (⟨"java/util/ImmutableCollections$List12", "<init>", "(Ljava/lang/Object;Ljava/lang/Object;)V"⟩ : MethodName) jdk_44_method_2_code 3 none ({ frames := 4, cells := 0, slots := 0, locals := 48 } : Room) #[(.ref r), (.ref d), (.ref d)] h0 (Q_l2I Z r d h0) := by
  refine Met1.of_body (Ls := #[.val (.ref r), .val (.ref d), .val (.ref d)]) pf_34 (fun m => by first | (simp [entryFrame, mkF, argsToLocals, Value.category]; done) | rfl) ?_
  intro p e s m below meth c T0 C X0 e0
  have N0 : Fr Z.heap.size [] := Fr.nil _
  refine Go.aloadN (pc' := 1) C X0 d34_0 rfl rfl rfl ?_
  refine Go.callI (y := (⟨"java/util/ImmutableCollections$AbstractImmutableList", "<init>", "()V"⟩ : MethodName)) (a := r) (pc' := 4) C X0 rfl (tw hw 236 rfl) (tw hw 214 rfl) (by decide) (rm_ail l Z a0 hw r h0 O0 ) (tw hw 218 rfl) (tw hw 217 rfl) e0 (argsL := []) (rest := []) (W := 0) rfl rfl pd_3 rfl (Nat.le_of_eq rfl) rfl (by decide) (by decide) (by decide) (by decide) rfl d34_1 rfl ?_
  intro T101 v101 L101 X101 q101
  obtain ⟨rfl, rfl, e101⟩ := q101
  have N101 := Fr.app N0 (Fr.nil _)
  refine Go.aloadN (pc' := 5) C X101 d34_4 rfl rfl rfl ?_
  refine Go.aloadN (pc' := 6) C X101 d34_5 rfl rfl rfl ?_
  refine Go.callS (y := (⟨"java/util/Objects", "requireNonNull", "(Ljava/lang/Object;)Ljava/lang/Object;"⟩ : MethodName)) (pc' := 9) C X101 (tw hw 240 rfl) (tw hw 205 rfl) (by decide) (rm_rn l Z a0 hw d h0 O0 ) (tw hw 207 rfl) (tw hw 206 rfl) e101 (argsL := [(.ref d)]) (rest := [(.ref r)]) (W := 1) rfl rfl pd_8 rfl (Nat.le_of_eq rfl) rfl (by decide) (by decide) (by decide) (by decide) d34_6 rfl ?_
  intro T102 v102 L102 X102 q102
  obtain ⟨rfl, rfl, e102⟩ := q102
  have N102 := Fr.app N101 (Fr.nil _)
  refine Go.putF (pc' := 12) (host := "") (ty := (.object "java/lang/Object")) C X102 (Or.inl (tw hw 241 rfl)) Via.refl e102 F1 E0 (Or.inr ⟨(tw hw 242 rfl), rfl, rfl⟩) (tw hw 230 rfl) (by decide) rfl rfl d34_9 rfl ?_
  intro T103 h103 X103 e103 W103 F103
  have N103 := Fr.snoc X103 N102 hn
  refine Go.aloadN (pc' := 13) C X103 d34_12 rfl rfl rfl ?_
  refine Go.aloadN (pc' := 14) C X103 d34_13 rfl rfl rfl ?_
  have O105 : Ext Z.heap h103 := (Ext.wr O0 W103 hn)
  refine Go.callS (y := (⟨"java/util/Objects", "requireNonNull", "(Ljava/lang/Object;)Ljava/lang/Object;"⟩ : MethodName)) (pc' := 17) C X103 (tw hw 240 rfl) (tw hw 205 rfl) (by decide) (rm_rn l Z a0 hw d h103 O105 ) (tw hw 207 rfl) (tw hw 206 rfl) e103 (argsL := [(.ref d)]) (rest := [(.ref r)]) (W := 1) rfl rfl pd_8 rfl (Nat.le_of_eq rfl) rfl (by decide) (by decide) (by decide) (by decide) d34_14 rfl ?_
  intro T104 v104 L104 X104 q104
  obtain ⟨rfl, rfl, e104⟩ := q104
  have N104 := Fr.app N103 (Fr.nil _)
  have c107 : Fld Z h103 r "java/util/ImmutableCollections$List12" "e1" "Ljava/lang/Object;" .null := (Fld.other W103 F2 (Or.inr (slot_ne (Or.inr (tw hw 244 rfl)) (Or.inr (tw hw 242 rfl)) (by decide) (t := (.object "java/lang/Object")) (t' := (.object "java/lang/Object")) (by decide) (by decide))))
  have c108 : Exa Z h103 r "java/util/ImmutableCollections$List12" := (Exa.wr W103 E0)
  refine Go.putF (pc' := 20) (host := "") (ty := (.object "java/lang/Object")) C X104 (Or.inl (tw hw 243 rfl)) Via.refl e104 c107 c108 (Or.inr ⟨(tw hw 244 rfl), rfl, rfl⟩) (tw hw 230 rfl) (by decide) rfl rfl d34_17 rfl ?_
  intro T106 h106 X106 e106 W106 F106
  have N106 := Fr.snoc X106 N104 hn
  have K109 : Keep h0 h106 [r] := (((Keep.refl h0 [r]).wr W103 (Or.inl (by simp))).wr W106 (Or.inl (by simp)))
  exact Go.retV C X106 rfl d34_20 (by rw [e106]; exact ⟨rfl, N106, K109, F106⟩) (by decide) (by decide)
theorem pf_36 : plainFor (⟨"java/util/ImmutableCollections$List12", "<init>", "(Ljava/lang/Object;)V"⟩ : MethodName) = true := plainFor_of_name (by first | (simp [plainName, overriddenIn]; done) | decide +kernel)
theorem d36_0 : decode jdk_44_method_1_code 0 = .ok (.aload_n 0, 1) := by decide +kernel
theorem d36_1 : decode jdk_44_method_1_code 1 = .ok (.invokespecial 1, 3) := by decide +kernel
theorem d36_4 : decode jdk_44_method_1_code 4 = .ok (.aload_n 0, 1) := by decide +kernel
theorem d36_5 : decode jdk_44_method_1_code 5 = .ok (.aload_n 1, 1) := by decide +kernel
theorem d36_6 : decode jdk_44_method_1_code 6 = .ok (.invokestatic 7, 3) := by decide +kernel
theorem d36_9 : decode jdk_44_method_1_code 9 = .ok (.putfield 13, 3) := by decide +kernel
theorem d36_12 : decode jdk_44_method_1_code 12 = .ok (.aload_n 0, 1) := by decide +kernel
theorem d36_13 : decode jdk_44_method_1_code 13 = .ok (.getstatic 19, 3) := by decide +kernel
theorem d36_16 : decode jdk_44_method_1_code 16 = .ok (.putfield 24, 3) := by decide +kernel
theorem d36_19 : decode jdk_44_method_1_code 19 = .ok (.return_, 1) := by decide +kernel
def Q_l1I (Z : State) (r : Addr) (d : Addr) (em : Addr) (h0 : Heap) (rv : Option Value) (h : Heap) (L : List Loc) : Prop := rv = none ∧ Fr Z.heap.size L ∧ Keep h0 h [r] ∧ Fld Z h r "java/util/ImmutableCollections$List12" "e1" "Ljava/lang/Object;" (.ref em)
set_option maxRecDepth 65536 in
set_option maxHeartbeats 40000000 in
theorem rm_l1I (l : Launch) (Z : State) (a0 : Array Value) (hw : ∀ d ∈ tables_1, d.before a0 Z = true) (r : Addr) (d : Addr) (em : Addr) (h0 : Heap) (O0 : Ext Z.heap h0) (E0 : Exa Z h0 r "java/util/ImmutableCollections$List12") (F1 : Fld Z h0 r "java/util/ImmutableCollections$List12" "e0" "Ljava/lang/Object;" .null) (F2 : Fld Z h0 r "java/util/ImmutableCollections$List12" "e1" "Ljava/lang/Object;" .null) (SE : Sta Z Z.heap "java/util/ImmutableCollections" "EMPTY" "Ljava/lang/Object;" (.ref em)) (hn : Z.heap.size ≤ r) :
    Met1 l Z (⟨"java/util/ImmutableCollections$List12", "<init>", "(Ljava/lang/Object;)V"⟩ : MethodName) jdk_44_method_1_code 2 none ({ frames := 4, cells := 0, slots := 0, locals := 48 } : Room) #[(.ref r), (.ref d)] h0 (Q_l1I Z r d em h0) := by
  refine Met1.of_body (Ls := #[.val (.ref r), .val (.ref d)]) pf_36 (fun m => by first | (simp [entryFrame, mkF, argsToLocals, Value.category]; done) | rfl) ?_
  intro p e s m below meth c T0 C X0 e0
  have N0 : Fr Z.heap.size [] := Fr.nil _
  refine Go.aloadN (pc' := 1) C X0 d36_0 rfl rfl rfl ?_
  refine Go.callI (y := (⟨"java/util/ImmutableCollections$AbstractImmutableList", "<init>", "()V"⟩ : MethodName)) (a := r) (pc' := 4) C X0 rfl (tw hw 236 rfl) (tw hw 214 rfl) (by decide) (rm_ail l Z a0 hw r h0 O0 ) (tw hw 218 rfl) (tw hw 217 rfl) e0 (argsL := []) (rest := []) (W := 0) rfl rfl pd_3 rfl (Nat.le_of_eq rfl) rfl (by decide) (by decide) (by decide) (by decide) rfl d36_1 rfl ?_
  intro T101 v101 L101 X101 q101
  obtain ⟨rfl, rfl, e101⟩ := q101
  have N101 := Fr.app N0 (Fr.nil _)
  refine Go.aloadN (pc' := 5) C X101 d36_4 rfl rfl rfl ?_
  refine Go.aloadN (pc' := 6) C X101 d36_5 rfl rfl rfl ?_
  refine Go.callS (y := (⟨"java/util/Objects", "requireNonNull", "(Ljava/lang/Object;)Ljava/lang/Object;"⟩ : MethodName)) (pc' := 9) C X101 (tw hw 240 rfl) (tw hw 205 rfl) (by decide) (rm_rn l Z a0 hw d h0 O0 ) (tw hw 207 rfl) (tw hw 206 rfl) e101 (argsL := [(.ref d)]) (rest := [(.ref r)]) (W := 1) rfl rfl pd_8 rfl (Nat.le_of_eq rfl) rfl (by decide) (by decide) (by decide) (by decide) d36_6 rfl ?_
  intro T102 v102 L102 X102 q102
  obtain ⟨rfl, rfl, e102⟩ := q102
  have N102 := Fr.app N101 (Fr.nil _)
  refine Go.putF (pc' := 12) (host := "") (ty := (.object "java/lang/Object")) C X102 (Or.inl (tw hw 241 rfl)) Via.refl e102 F1 E0 (Or.inr ⟨(tw hw 242 rfl), rfl, rfl⟩) (tw hw 230 rfl) (by decide) rfl rfl d36_9 rfl ?_
  intro T103 h103 X103 e103 W103 F103
  have N103 := Fr.snoc X103 N102 hn
  refine Go.aloadN (pc' := 13) C X103 d36_12 rfl rfl rfl ?_
  have O105 : Ext Z.heap h103 := (Ext.wr O0 W103 hn)
  refine Go.getS (pc' := 16)  C X103 (Or.inr (tw hw 251 rfl)) Via.refl e103 (SE.ext O105) d36_13 rfl ?_
  intro T104 X104 e104
  have c107 : Fld Z h103 r "java/util/ImmutableCollections$List12" "e1" "Ljava/lang/Object;" .null := (Fld.other W103 F2 (Or.inr (slot_ne (Or.inr (tw hw 244 rfl)) (Or.inr (tw hw 242 rfl)) (by decide) (t := (.object "java/lang/Object")) (t' := (.object "java/lang/Object")) (by decide) (by decide))))
  have c108 : Exa Z h103 r "java/util/ImmutableCollections$List12" := (Exa.wr W103 E0)
  refine Go.putF (pc' := 19) (host := "") (ty := (.object "java/lang/Object")) C X104 (Or.inl (tw hw 243 rfl)) Via.refl e104 c107 c108 (Or.inr ⟨(tw hw 244 rfl), rfl, rfl⟩) (tw hw 230 rfl) (by decide) rfl rfl d36_16 rfl ?_
  intro T106 h106 X106 e106 W106 F106
  have N106 := Fr.snoc X106 N103 hn
  have K109 : Keep h0 h106 [r] := (((Keep.refl h0 [r]).wr W103 (Or.inl (by simp))).wr W106 (Or.inl (by simp)))
  exact Go.retV C X106 rfl d36_19 (by rw [e106]; exact ⟨rfl, N106, K109, F106⟩) (by decide) (by decide)
theorem pf_15 : plainFor (⟨"java/util/ArrayList", "isEmpty", "()Z"⟩ : MethodName) = true := plainFor_of_name (by first | (simp [plainName, overriddenIn]; done) | decide +kernel)
theorem d15_0 : decode jdk_38_method_9_code 0 = .ok (.aload_n 0, 1) := by decide +kernel
theorem d15_1 : decode jdk_38_method_9_code 1 = .ok (.getfield 48, 3) := by decide +kernel
theorem d15_4 : decode jdk_38_method_9_code 4 = .ok (.ifCond .ne 7, 3) := by decide +kernel
theorem d15_7 : decode jdk_38_method_9_code 7 = .ok (.iconst 1, 1) := by decide +kernel
theorem d15_8 : decode jdk_38_method_9_code 8 = .ok (.goto 4, 3) := by decide +kernel
theorem d15_12 : decode jdk_38_method_9_code 12 = .ok (.ireturn, 1) := by decide +kernel
def Q_emp0 (Z : State) (r : Addr) (h0 : Heap) (rv : Option Value) (h : Heap) (L : List Loc) : Prop := rv = some (.int (1 : Int32)) ∧ L = [] ∧ h = h0
set_option maxRecDepth 65536 in
set_option maxHeartbeats 40000000 in
theorem rm_emp0 (l : Launch) (Z : State) (a0 : Array Value) (hw : ∀ d ∈ tables_1, d.before a0 Z = true) (r : Addr) (h0 : Heap) (O0 : Ext Z.heap h0) (F3 : Fld Z h0 r "java/util/ArrayList" "size" "I" (.int (0 : Int32))) :
    Met1 l Z (⟨"java/util/ArrayList", "isEmpty", "()Z"⟩ : MethodName) jdk_38_method_9_code 1 (some .boolean) ({ frames := 0, cells := 0, slots := 0, locals := 0 } : Room) #[(.ref r)] h0 (Q_emp0 Z r h0) := by
  refine Met1.of_body (Ls := #[.val (.ref r)]) pf_15 (fun m => by first | (simp [entryFrame, mkF, argsToLocals, Value.category]; done) | rfl) ?_
  intro p e s m below meth c T0 C X0 e0
  have N0 : Fr Z.heap.size [] := Fr.nil _
  refine Go.aloadN (pc' := 1) C X0 d15_0 rfl rfl rfl ?_
  refine Go.getF (pc' := 4) (host := "") C X0 (Or.inl (tw hw 109 rfl)) Via.refl e0 F3 d15_1 rfl ?_
  intro T101 X101 e101
  refine Go.ifNo (pc' := 7) C X101 d15_4 ((if0 _ _).trans (teq (x := (0 : Int32)) (y := (0 : Int32)) (by decide)).2) rfl ?_
  refine Go.iconst (z := (1 : Int32)) (pc' := 8) C X101 d15_7 rfl rfl ?_
  refine Go.goto (pc' := 12) C X101 d15_8 (by decide) (by decide) ?_
  exact Go.retN C X101 rfl d15_12 (by simp) (by rw [e101]; exact ⟨rfl, rfl, rfl⟩) (by decide) (by decide)
theorem pf_16 : plainFor (⟨"java/util/List", "of", "()Ljava/util/List;"⟩ : MethodName) = true := plainFor_of_name (by first | (simp [plainName, overriddenIn]; done) | decide +kernel)
theorem d16_0 : decode jdk_40_method_36_code 0 = .ok (.getstatic 90, 3) := by decide +kernel
theorem d16_3 : decode jdk_40_method_36_code 3 = .ok (.areturn, 1) := by decide +kernel
def Q_lof0 (Z : State) (el : Addr) (h0 : Heap) (rv : Option Value) (h : Heap) (L : List Loc) : Prop := rv = some (.ref el) ∧ L = [] ∧ h = h0
set_option maxRecDepth 65536 in
set_option maxHeartbeats 40000000 in
theorem rm_lof0 (l : Launch) (Z : State) (a0 : Array Value) (hw : ∀ d ∈ tables_1, d.before a0 Z = true) (el : Addr) (h0 : Heap) (O0 : Ext Z.heap h0) (SL : Sta Z Z.heap "java/util/ImmutableCollections" "EMPTY_LIST" "Ljava/util/ImmutableCollections$ListN;" (.ref el)) :
    Met1 l Z (⟨"java/util/List", "of", "()Ljava/util/List;"⟩ : MethodName) jdk_40_method_36_code 0 (some (.object "java/util/List")) ({ frames := 0, cells := 0, slots := 0, locals := 0 } : Room) #[] h0 (Q_lof0 Z el h0) := by
  refine Met1.of_body (Ls := #[]) pf_16 (fun m => by first | (simp [entryFrame, mkF, argsToLocals, Value.category]; done) | rfl) ?_
  intro p e s m below meth c T0 C X0 e0
  have N0 : Fr Z.heap.size [] := Fr.nil _
  refine Go.getS (pc' := 3) (host := "") C X0 (Or.inl (tw hw 114 rfl)) Via.refl e0 (SL.ext O0) d16_0 rfl ?_
  intro T101 X101 e101
  exact Go.retA C X101 rfl d16_3 rfl rfl rfl (by rw [e101]; exact ⟨rfl, rfl, rfl⟩) (by decide) (by decide)
theorem d15_11 : decode jdk_38_method_9_code 11 = .ok (.iconst 0, 1) := by decide +kernel
def Q_emp1 (Z : State) (r : Addr) (h0 : Heap) (rv : Option Value) (h : Heap) (L : List Loc) : Prop := rv = some (.int (0 : Int32)) ∧ L = [] ∧ h = h0
set_option maxRecDepth 65536 in
set_option maxHeartbeats 40000000 in
theorem rm_emp1 (l : Launch) (Z : State) (a0 : Array Value) (hw : ∀ d ∈ tables_1, d.before a0 Z = true) (r : Addr) (h0 : Heap) (O0 : Ext Z.heap h0) (F3 : Fld Z h0 r "java/util/ArrayList" "size" "I" (.int (1 : Int32))) :
    Met1 l Z (⟨"java/util/ArrayList", "isEmpty", "()Z"⟩ : MethodName) jdk_38_method_9_code 1 (some .boolean) ({ frames := 0, cells := 0, slots := 0, locals := 0 } : Room) #[(.ref r)] h0 (Q_emp1 Z r h0) := by
  refine Met1.of_body (Ls := #[.val (.ref r)]) pf_15 (fun m => by first | (simp [entryFrame, mkF, argsToLocals, Value.category]; done) | rfl) ?_
  intro p e s m below meth c T0 C X0 e0
  have N0 : Fr Z.heap.size [] := Fr.nil _
  refine Go.aloadN (pc' := 1) C X0 d15_0 rfl rfl rfl ?_
  refine Go.getF (pc' := 4) (host := "") C X0 (Or.inl (tw hw 109 rfl)) Via.refl e0 F3 d15_1 rfl ?_
  intro T101 X101 e101
  refine Go.ifYes (pc' := 11) C X101 d15_4 ((if0 _ _).trans (feq (x := (1 : Int32)) (y := (0 : Int32)) (by decide)).2) (by decide) (by decide) ?_
  refine Go.iconst (z := (0 : Int32)) (pc' := 12) C X101 d15_11 rfl rfl ?_
  exact Go.retN C X101 rfl d15_12 (by simp) (by rw [e101]; exact ⟨rfl, rfl, rfl⟩) (by decide) (by decide)
theorem pf_27 : plainFor (⟨"java/lang/Math", "min", "(II)I"⟩ : MethodName) = true := Jvm.Free.JP.mathPlain rfl (by decide +kernel)
theorem d27_0 : decode jdk_29_method_69_code 0 = .ok (.iload_n 0, 1) := by decide +kernel
theorem d27_1 : decode jdk_29_method_69_code 1 = .ok (.iload_n 1, 1) := by decide +kernel
theorem d27_2 : decode jdk_29_method_69_code 2 = .ok (.if_icmp .gt 7, 3) := by decide +kernel
theorem d27_9 : decode jdk_29_method_69_code 9 = .ok (.iload_n 1, 1) := by decide +kernel
theorem d27_10 : decode jdk_29_method_69_code 10 = .ok (.ireturn, 1) := by decide +kernel
def Q_mn1 (Z : State)  (h0 : Heap) (rv : Option Value) (h : Heap) (L : List Loc) : Prop := rv = some (.int (1 : Int32)) ∧ L = [] ∧ h = h0
set_option maxRecDepth 65536 in
set_option maxHeartbeats 40000000 in
theorem rm_mn1 (l : Launch) (Z : State) (a0 : Array Value) (hw : ∀ d ∈ tables_1, d.before a0 Z = true)  (h0 : Heap) (O0 : Ext Z.heap h0) :
    Met1 l Z (⟨"java/lang/Math", "min", "(II)I"⟩ : MethodName) jdk_29_method_69_code 2 (some .int) ({ frames := 0, cells := 0, slots := 0, locals := 0 } : Room) #[(.int (10 : Int32)), (.int (1 : Int32))] h0 (Q_mn1 Z  h0) := by
  refine Met1.of_body (Ls := #[.val (.int (10 : Int32)), .val (.int (1 : Int32))]) pf_27 (fun m => by first | (simp [entryFrame, mkF, argsToLocals, Value.category]; done) | rfl) ?_
  intro p e s m below meth c T0 C X0 e0
  have N0 : Fr Z.heap.size [] := Fr.nil _
  refine Go.iloadN (pc' := 1) C X0 d27_0 rfl rfl ?_
  refine Go.iloadN (pc' := 2) C X0 d27_1 rfl rfl ?_
  refine Go.icmpYes (pc' := 9) C X0 d27_2 (tlt (x := (1 : Int32)) (y := (10 : Int32)) (by decide)).2.2.1 (by decide) (by decide) ?_
  refine Go.iloadN (pc' := 10) C X0 d27_9 rfl rfl ?_
  exact Go.retI C X0 rfl d27_10 (by rw [e0]; exact ⟨rfl, rfl, rfl⟩) (by decide) (by decide)
theorem pf_26 : plainFor (⟨"java/util/Arrays", "copyOf", "([Ljava/lang/Object;ILjava/lang/Class;)[Ljava/lang/Object;"⟩ : MethodName) = true := plainFor_of_name (by first | (simp [plainName, overriddenIn]; done) | decide +kernel)
theorem d26_0 : decode jdk_65_method_120_code 0 = .ok (.aload_n 2, 1) := by decide +kernel
theorem d26_1 : decode jdk_65_method_120_code 1 = .ok (.ldc 110, 2) := by decide +kernel
theorem d26_3 : decode jdk_65_method_120_code 3 = .ok (.if_acmp .ne 10, 3) := by decide +kernel
theorem d26_6 : decode jdk_65_method_120_code 6 = .ok (.iload_n 1, 1) := by decide +kernel
theorem d26_7 : decode jdk_65_method_120_code 7 = .ok (.anewarray 2, 3) := by decide +kernel
theorem d26_10 : decode jdk_65_method_120_code 10 = .ok (.goto 14, 3) := by decide +kernel
theorem d26_24 : decode jdk_65_method_120_code 24 = .ok (.astore_n 3, 1) := by decide +kernel
theorem d26_25 : decode jdk_65_method_120_code 25 = .ok (.aload_n 0, 1) := by decide +kernel
theorem d26_26 : decode jdk_65_method_120_code 26 = .ok (.iconst 0, 1) := by decide +kernel
theorem d26_27 : decode jdk_65_method_120_code 27 = .ok (.aload_n 3, 1) := by decide +kernel
theorem d26_28 : decode jdk_65_method_120_code 28 = .ok (.iconst 0, 1) := by decide +kernel
theorem d26_29 : decode jdk_65_method_120_code 29 = .ok (.aload_n 0, 1) := by decide +kernel
theorem d26_30 : decode jdk_65_method_120_code 30 = .ok (.arraylength, 1) := by decide +kernel
theorem d26_31 : decode jdk_65_method_120_code 31 = .ok (.iload_n 1, 1) := by decide +kernel
theorem d26_32 : decode jdk_65_method_120_code 32 = .ok (.invokestatic 304, 3) := by decide +kernel
theorem d26_35 : decode jdk_65_method_120_code 35 = .ok (.invokestatic 150, 3) := by decide +kernel
theorem d26_38 : decode jdk_65_method_120_code 38 = .ok (.aload_n 3, 1) := by decide +kernel
theorem d26_39 : decode jdk_65_method_120_code 39 = .ok (.areturn, 1) := by decide +kernel
def Q_cpc1 (Z : State) (d : Addr) (w : Addr) (kw : ClassId) (mr : Addr) (h0 : Heap) (rv : Option Value) (h : Heap) (L : List Loc) : Prop := ∃ v : Addr, ∃ kv : ClassId, rv = some (.ref v) ∧ Fr Z.heap.size L ∧ Keep h0 h [] ∧ h0.size ≤ v ∧ AL Z h v kv (.object "java/lang/Object") [(.ref d)]
set_option maxRecDepth 65536 in
set_option maxHeartbeats 40000000 in
theorem rm_cpc1 (l : Launch) (Z : State) (a0 : Array Value) (hw : ∀ d ∈ tables_1, d.before a0 Z = true) (d : Addr) (w : Addr) (kw : ClassId) (mr : Addr) (h0 : Heap) (O0 : Ext Z.heap h0) (Ew : Exa Z h0 w "[Ljava/lang/Object;") (Aw : AL Z h0 w kw (.object "java/lang/Object") [(.ref d), .null, .null, .null, .null, .null, .null, .null, .null, .null]) (Ed : Exa Z h0 d "com/example/tranche/tranche/journal/DefaultRateChange") (hM : Mir Z "[Ljava/lang/Object;" mr) :
    Met1 l Z (⟨"java/util/Arrays", "copyOf", "([Ljava/lang/Object;ILjava/lang/Class;)[Ljava/lang/Object;"⟩ : MethodName) jdk_65_method_120_code 4 (some (.array (.object "java/lang/Object"))) ({ frames := 1, cells := 1, slots := 1, locals := 18 } : Room) #[(.ref w), (.int (1 : Int32)), (.ref mr)] h0 (Q_cpc1 Z d w kw mr h0) := by
  refine Met1.of_body (Ls := #[.val (.ref w), .val (.int (1 : Int32)), .val (.ref mr), .unset]) pf_26 (fun m => by first | (simp [entryFrame, mkF, argsToLocals, Value.category]; done) | rfl) ?_
  intro p e s m below meth c T0 C X0 e0
  have N0 : Fr Z.heap.size [] := Fr.nil _
  refine Go.aloadN (pc' := 1) C X0 d26_0 rfl rfl rfl ?_
  refine Go.ldcM (pc' := 3) C X0 (tw hw 188 rfl) e0 hM d26_1 rfl ?_
  intro T101 X101 e101
  refine Go.acmpNo (pc' := 6) C X101 d26_3 rfl rfl (XT.aa_ne_f rfl) rfl ?_
  refine Go.iloadN (pc' := 7) C X101 d26_6 rfl rfl ?_
  refine Go.newR (cap := 1) (vs := [.null]) (ad := "[Ljava/lang/Object;") (pc' := 10) C X101 (by decide) (tw hw 189 rfl) (tw hw 148 rfl) e101 (by decide) (by decide) (by decide) (by decide) (by decide) rfl d26_7 rfl ?_
  intro T102 h102 b102 k102 X102 e102 g102 E102 A102 Ea102 O102v
  have n_b102 : Z.heap.size ≤ b102 := Nat.le_trans O0.1 (Nat.le_of_eq g102.symm)
  have z_b102 : h0.size ≤ b102 := Nat.le_trans (Nat.le_refl _) (Nat.le_of_eq g102.symm)
  have A102 : AL Z h102 b102 k102 (.object "java/lang/Object") [.null] := A102
  refine Go.goto (pc' := 24) C X102 d26_10 (by decide) (by decide) ?_
  refine Go.astoreN (Ls' := #[.val (.ref w), .val (.int (1 : Int32)), .val (.ref mr), .val (.ref b102)]) (pc' := 25) C X102 d26_24 rfl rfl rfl ?_
  refine Go.aloadN (pc' := 26) C X102 d26_25 rfl rfl rfl ?_
  refine Go.iconst (z := (0 : Int32)) (pc' := 27) C X102 d26_26 rfl rfl ?_
  refine Go.aloadN (pc' := 28) C X102 d26_27 rfl rfl rfl ?_
  refine Go.iconst (z := (0 : Int32)) (pc' := 29) C X102 d26_28 rfl rfl ?_
  refine Go.aloadN (pc' := 30) C X102 d26_29 rfl rfl rfl ?_
  have c103 : AL Z h102 w kw (.object "java/lang/Object") [(.ref d), .null, .null, .null, .null, .null, .null, .null, .null, .null] := (AL.ext E102 Aw)
  refine Go.alen (z := (10 : Int32)) (pc' := 31) C X102 e102 c103 rfl d26_30 rfl ?_
  refine Go.iloadN (pc' := 32) C X102 d26_31 rfl rfl ?_
  have O105 : Ext Z.heap h102 := (Ext.trans O0 E102)
  refine Go.callS (y := (⟨"java/lang/Math", "min", "(II)I"⟩ : MethodName)) (pc' := 35) C X102 (tw hw 190 rfl) (tw hw 191 rfl) (by decide) (rm_mn1 l Z a0 hw  h102 O105 ) (tw hw 192 rfl) (tw hw 145 rfl) e102 (argsL := [(.int (10 : Int32)), (.int (1 : Int32))]) (rest := [(.int (0 : Int32)), (.ref b102), (.int (0 : Int32)), (.ref w)]) (W := 4) rfl rfl pd_4 rfl (Nat.le_of_eq rfl) rfl (by decide) (by decide) (by decide) (by decide) d26_32 rfl ?_
  intro T104 v104 L104 X104 q104
  obtain ⟨rfl, rfl, e104⟩ := q104
  have N104 := Fr.app N0 (Fr.nil _)
  have c107 : Exa Z h102 d "com/example/tranche/tranche/journal/DefaultRateChange" := (Exa.ext E102 Ed)
  refine Go.arrcopy (i := 0) (j := 0) (n := 1) (vd' := [(.ref d)]) (W := 0) (n0 := Z.heap.size) (pc' := 38) C X104 (tw hw 193 rfl) (tw hw 196 rfl) (tw hw 194 rfl) (tw hw 195 rfl) e104 c103 A102 (by simp [fits]) (by simp [fits]) (by simp) (by simp) (Or.inr ⟨rfl, rfl, ⟨(AL.sto A102 O102v (Ins.of_exa c107 (tw hw 149 rfl))), trivial⟩⟩) (by decide) (by decide) (by decide) (by decide) (by decide) (by decide) (by simp) (by simp) rfl N104 n_b102 rfl (by decide) (Nat.le_of_eq rfl) (by decide) d26_35 rfl ?_
  intro T106 h106 L106 X106 e106 N106 K106 A106
  refine Go.aloadN (pc' := 39) C X106 d26_38 rfl rfl rfl ?_
  have K108 : Keep h0 h106 [] := (((Keep.refl h0 []).ext E102).trans K106 (allS (Or.inr z_b102) all0))
  exact Go.retA C X106 rfl d26_39 rfl rfl rfl (by rw [e106]; exact ⟨b102, k102, rfl, N106, K108, z_b102, A106⟩) (by decide) (by decide)
theorem pd_9 : parseMethodDescriptor "([Ljava/lang/Object;ILjava/lang/Class;)[Ljava/lang/Object;" = some ⟨[(.array (.object "java/lang/Object")), .int, (.object "java/lang/Class")], some (.array (.object "java/lang/Object"))⟩ := by decide +kernel
theorem pf_25 : plainFor (⟨"java/util/Arrays", "copyOf", "([Ljava/lang/Object;I)[Ljava/lang/Object;"⟩ : MethodName) = true := plainFor_of_name (by first | (simp [plainName, overriddenIn]; done) | decide +kernel)
theorem d25_0 : decode jdk_65_method_119_code 0 = .ok (.aload_n 0, 1) := by decide +kernel
theorem d25_1 : decode jdk_65_method_119_code 1 = .ok (.iload_n 1, 1) := by decide +kernel
theorem d25_2 : decode jdk_65_method_119_code 2 = .ok (.aload_n 0, 1) := by decide +kernel
theorem d25_3 : decode jdk_65_method_119_code 3 = .ok (.invokevirtual 86, 3) := by decide +kernel
theorem d25_6 : decode jdk_65_method_119_code 6 = .ok (.invokestatic 300, 3) := by decide +kernel
theorem d25_9 : decode jdk_65_method_119_code 9 = .ok (.areturn, 1) := by decide +kernel
def Q_cp1 (Z : State) (d : Addr) (w : Addr) (kw : ClassId) (mr : Addr) (h0 : Heap) (rv : Option Value) (h : Heap) (L : List Loc) : Prop := ∃ v : Addr, ∃ kv : ClassId, rv = some (.ref v) ∧ Fr Z.heap.size L ∧ Keep h0 h [] ∧ h0.size ≤ v ∧ AL Z h v kv (.object "java/lang/Object") [(.ref d)]
set_option maxRecDepth 65536 in
set_option maxHeartbeats 40000000 in
theorem rm_cp1 (l : Launch) (Z : State) (a0 : Array Value) (hw : ∀ d ∈ tables_1, d.before a0 Z = true) (d : Addr) (w : Addr) (kw : ClassId) (mr : Addr) (h0 : Heap) (O0 : Ext Z.heap h0) (Ew : Exa Z h0 w "[Ljava/lang/Object;") (Aw : AL Z h0 w kw (.object "java/lang/Object") [(.ref d), .null, .null, .null, .null, .null, .null, .null, .null, .null]) (Ed : Exa Z h0 d "com/example/tranche/tranche/journal/DefaultRateChange") (hM : Mir Z "[Ljava/lang/Object;" mr) :
    Met1 l Z (⟨"java/util/Arrays", "copyOf", "([Ljava/lang/Object;I)[Ljava/lang/Object;"⟩ : MethodName) jdk_65_method_119_code 2 (some (.array (.object "java/lang/Object"))) ({ frames := 2, cells := 1, slots := 1, locals := 33 } : Room) #[(.ref w), (.int (1 : Int32))] h0 (Q_cp1 Z d w kw mr h0) := by
  refine Met1.of_body (Ls := #[.val (.ref w), .val (.int (1 : Int32))]) pf_25 (fun m => by first | (simp [entryFrame, mkF, argsToLocals, Value.category]; done) | rfl) ?_
  intro p e s m below meth c T0 C X0 e0
  have N0 : Fr Z.heap.size [] := Fr.nil _
  refine Go.aloadN (pc' := 1) C X0 d25_0 rfl rfl rfl ?_
  refine Go.iloadN (pc' := 2) C X0 d25_1 rfl rfl ?_
  refine Go.aloadN (pc' := 3) C X0 d25_2 rfl rfl rfl ?_
  refine Go.gcls (W := 2) (pc' := 6) C X0 (tw hw 179 rfl) (tw hw 180 rfl) (tw hw 98 rfl) (tw hw 182 rfl) (tw hw 181 rfl) (tw hw 183 rfl) e0 Ew hM rfl (by decide) (Nat.le_of_eq rfl) (by decide) d25_3 rfl ?_
  intro T101 X101 e101
  refine Go.callS (y := (⟨"java/util/Arrays", "copyOf", "([Ljava/lang/Object;ILjava/lang/Class;)[Ljava/lang/Object;"⟩ : MethodName)) (pc' := 9) C X101 (tw hw 185 rfl) (tw hw 186 rfl) (by decide) (rm_cpc1 l Z a0 hw d w kw mr h0 O0 Ew Aw Ed hM) (tw hw 187 rfl) (tw hw 177 rfl) e101 (argsL := [(.ref w), (.int (1 : Int32)), (.ref mr)]) (rest := []) (W := 0) rfl rfl pd_9 rfl (Nat.le_of_eq rfl) rfl (by decide) (by decide) (by decide) (by decide) d25_6 rfl ?_
  intro T102 v102 L102 X102 q102
  obtain ⟨v_102, kv_102, rfl, N102q, K102, B102_0, P102_0⟩ := q102
  have N102 := Fr.app N0 N102q
  have n_v_102 : Z.heap.size ≤ v_102 := Nat.le_trans O0.1 B102_0
  have z_v_102 : h0.size ≤ v_102 := Nat.le_trans (Nat.le_refl _) B102_0
  have K103 : Keep h0 T102.heap [] := ((Keep.refl h0 []).trans K102 all0)
  exact Go.retA C X102 rfl d25_9 rfl rfl rfl ⟨v_102, kv_102, rfl, N102, K103, z_v_102, P102_0⟩ (by decide) (by decide)
theorem pd_10 : parseMethodDescriptor "([Ljava/lang/Object;I)[Ljava/lang/Object;" = some ⟨[(.array (.object "java/lang/Object")), .int], some (.array (.object "java/lang/Object"))⟩ := by decide +kernel
theorem pf_24 : plainFor (⟨"java/util/ArrayList", "toArray", "()[Ljava/lang/Object;"⟩ : MethodName) = true := plainFor_of_name (by first | (simp [plainName, overriddenIn]; done) | decide +kernel)
theorem d24_0 : decode jdk_38_method_16_code 0 = .ok (.aload_n 0, 1) := by decide +kernel
theorem d24_1 : decode jdk_38_method_16_code 1 = .ok (.getfield 9, 3) := by decide +kernel
theorem d24_4 : decode jdk_38_method_16_code 4 = .ok (.aload_n 0, 1) := by decide +kernel
theorem d24_5 : decode jdk_38_method_16_code 5 = .ok (.getfield 48, 3) := by decide +kernel
theorem d24_8 : decode jdk_38_method_16_code 8 = .ok (.invokestatic 66, 3) := by decide +kernel
theorem d24_11 : decode jdk_38_method_16_code 11 = .ok (.areturn, 1) := by decide +kernel
def Q_ta1 (Z : State) (r : Addr) (d : Addr) (w : Addr) (kw : ClassId) (mr : Addr) (h0 : Heap) (rv : Option Value) (h : Heap) (L : List Loc) : Prop := ∃ v : Addr, ∃ kv : ClassId, rv = some (.ref v) ∧ Fr Z.heap.size L ∧ Keep h0 h [] ∧ h0.size ≤ v ∧ AL Z h v kv (.object "java/lang/Object") [(.ref d)]
set_option maxRecDepth 65536 in
set_option maxHeartbeats 40000000 in
theorem rm_ta1 (l : Launch) (Z : State) (a0 : Array Value) (hw : ∀ d ∈ tables_1, d.before a0 Z = true) (r : Addr) (d : Addr) (w : Addr) (kw : ClassId) (mr : Addr) (h0 : Heap) (O0 : Ext Z.heap h0) (F2 : Fld Z h0 r "java/util/ArrayList" "elementData" "[Ljava/lang/Object;" (.ref w)) (F3 : Fld Z h0 r "java/util/ArrayList" "size" "I" (.int (1 : Int32))) (Ew : Exa Z h0 w "[Ljava/lang/Object;") (Aw : AL Z h0 w kw (.object "java/lang/Object") [(.ref d), .null, .null, .null, .null, .null, .null, .null, .null, .null]) (Ed : Exa Z h0 d "com/example/tranche/tranche/journal/DefaultRateChange") (hM : Mir Z "[Ljava/lang/Object;" mr) :
    Met1 l Z (⟨"java/util/ArrayList", "toArray", "()[Ljava/lang/Object;"⟩ : MethodName) jdk_38_method_16_code 1 (some (.array (.object "java/lang/Object"))) ({ frames := 3, cells := 1, slots := 1, locals := 46 } : Room) #[(.ref r)] h0 (Q_ta1 Z r d w kw mr h0) := by
  refine Met1.of_body (Ls := #[.val (.ref r)]) pf_24 (fun m => by first | (simp [entryFrame, mkF, argsToLocals, Value.category]; done) | rfl) ?_
  intro p e s m below meth c T0 C X0 e0
  have N0 : Fr Z.heap.size [] := Fr.nil _
  refine Go.aloadN (pc' := 1) C X0 d24_0 rfl rfl rfl ?_
  refine Go.getF (pc' := 4) (host := "") C X0 (Or.inl (tw hw 77 rfl)) Via.refl e0 F2 d24_1 rfl ?_
  intro T101 X101 e101
  refine Go.aloadN (pc' := 5) C X101 d24_4 rfl rfl rfl ?_
  refine Go.getF (pc' := 8) (host := "") C X101 (Or.inl (tw hw 109 rfl)) Via.refl e101 F3 d24_5 rfl ?_
  intro T102 X102 e102
  refine Go.callS (y := (⟨"java/util/Arrays", "copyOf", "([Ljava/lang/Object;I)[Ljava/lang/Object;"⟩ : MethodName)) (pc' := 11) C X102 (tw hw 175 rfl) (tw hw 176 rfl) (by decide) (rm_cp1 l Z a0 hw d w kw mr h0 O0 Ew Aw Ed hM) (tw hw 178 rfl) (tw hw 177 rfl) e102 (argsL := [(.ref w), (.int (1 : Int32))]) (rest := []) (W := 0) rfl rfl pd_10 rfl (Nat.le_of_eq rfl) rfl (by decide) (by decide) (by decide) (by decide) d24_8 rfl ?_
  intro T103 v103 L103 X103 q103
  obtain ⟨v_103, kv_103, rfl, N103q, K103, B103_0, P103_0⟩ := q103
  have N103 := Fr.app N0 N103q
  have n_v_103 : Z.heap.size ≤ v_103 := Nat.le_trans O0.1 B103_0
  have z_v_103 : h0.size ≤ v_103 := Nat.le_trans (Nat.le_refl _) B103_0
  have K104 : Keep h0 T103.heap [] := ((Keep.refl h0 []).trans K103 all0)
  exact Go.retA C X103 rfl d24_11 rfl rfl rfl ⟨v_103, kv_103, rfl, N103, K104, z_v_103, P103_0⟩ (by decide) (by decide)
theorem pd_11 : parseMethodDescriptor "(Ljava/lang/Object;)V" = some ⟨[(.object "java/lang/Object")], none⟩ := by decide +kernel
theorem pf_28 : plainFor (⟨"java/util/List", "of", "([Ljava/lang/Object;)Ljava/util/List;"⟩ : MethodName) = true := plainFor_of_name (by first | (simp [plainName, overriddenIn]; done) | decide +kernel)
theorem d28_0 : decode jdk_40_method_47_code 0 = .ok (.aload_n 0, 1) := by decide +kernel
theorem d28_1 : decode jdk_40_method_47_code 1 = .ok (.arraylength, 1) := by decide +kernel
theorem d28_2 : decode jdk_40_method_47_code 2 = .ok (.tableswitch 57 0 2 #[26, 32, 43], 26) := by decide +kernel
theorem d28_34 : decode jdk_40_method_47_code 34 = .ok (.new 96, 3) := by decide +kernel
theorem d28_37 : decode jdk_40_method_47_code 37 = .ok (.dup, 1) := by decide +kernel
theorem d28_38 : decode jdk_40_method_47_code 38 = .ok (.aload_n 0, 1) := by decide +kernel
theorem d28_39 : decode jdk_40_method_47_code 39 = .ok (.iconst 0, 1) := by decide +kernel
theorem d28_40 : decode jdk_40_method_47_code 40 = .ok (.aaload, 1) := by decide +kernel
theorem d28_41 : decode jdk_40_method_47_code 41 = .ok (.invokespecial 98, 3) := by decide +kernel
theorem d28_44 : decode jdk_40_method_47_code 44 = .ok (.areturn, 1) := by decide +kernel
def Q_lof1 (Z : State) (d : Addr) (v : Addr) (kv : ClassId) (em : Addr) (h0 : Heap) (rv : Option Value) (h : Heap) (L : List Loc) : Prop := ∃ r : Addr, rv = some (.ref r) ∧ Fr Z.heap.size L ∧ Keep h0 h [] ∧ h0.size ≤ r ∧ Exa Z h r "java/util/ImmutableCollections$List12" ∧ Fld Z h r "java/util/ImmutableCollections$List12" "e1" "Ljava/lang/Object;" (.ref em)
set_option maxRecDepth 65536 in
set_option maxHeartbeats 40000000 in
theorem rm_lof1 (l : Launch) (Z : State) (a0 : Array Value) (hw : ∀ d ∈ tables_1, d.before a0 Z = true) (d : Addr) (v : Addr) (kv : ClassId) (em : Addr) (h0 : Heap) (O0 : Ext Z.heap h0) (Av : AL Z h0 v kv (.object "java/lang/Object") [(.ref d)]) (Ed : Exa Z h0 d "com/example/tranche/tranche/journal/DefaultRateChange") (SE : Sta Z Z.heap "java/util/ImmutableCollections" "EMPTY" "Ljava/lang/Object;" (.ref em)) :
    Met1 l Z (⟨"java/util/List", "of", "([Ljava/lang/Object;)Ljava/util/List;"⟩ : MethodName) jdk_40_method_47_code 2 (some (.object "java/util/List")) ({ frames := 5, cells := 1, slots := 2, locals := 62 } : Room) #[(.ref v)] h0 (Q_lof1 Z d v kv em h0) := by
  refine Met1.of_body (Ls := #[.val (.ref v), .unset]) pf_28 (fun m => by first | (simp [entryFrame, mkF, argsToLocals, Value.category]; done) | rfl) ?_
  intro p e s m below meth c T0 C X0 e0
  have N0 : Fr Z.heap.size [] := Fr.nil _
  refine Go.aloadN (pc' := 1) C X0 d28_0 rfl rfl rfl ?_
  refine Go.alen (z := (1 : Int32)) (pc' := 2) C X0 e0 Av rfl d28_1 rfl ?_
  refine Go.tswIn (pc' := 34) (o := 32) C X0 d28_2 (by decide) (by decide) (by decide) (by decide) ?_
  refine Go.newO (pc' := 37) C X0 (tw hw 229 rfl) (tw hw 230 rfl) (tw hw 231 rfl) e0 (by decide) (by decide) d28_34 rfl ?_
  intro T101 h101 b101 X101 e101 g101 E101 A101 D101
  have n_b101 : Z.heap.size ≤ b101 := Nat.le_trans O0.1 (Nat.le_of_eq g101.symm)
  have z_b101 : h0.size ≤ b101 := Nat.le_trans (Nat.le_refl _) (Nat.le_of_eq g101.symm)
  have F101_e0 : Fld Z h101 b101 "java/util/ImmutableCollections$List12" "e0" "Ljava/lang/Object;" .null := D101 (Or.inr (tw hw 242 rfl)) (ty := (.object "java/lang/Object")) (by decide)
  have F101_e1 : Fld Z h101 b101 "java/util/ImmutableCollections$List12" "e1" "Ljava/lang/Object;" .null := D101 (Or.inr (tw hw 244 rfl)) (ty := (.object "java/lang/Object")) (by decide)
  refine Go.dup (pc' := 38) C X101 d28_37 rfl rfl ?_
  refine Go.aloadN (pc' := 39) C X101 d28_38 rfl rfl rfl ?_
  refine Go.iconst (z := (0 : Int32)) (pc' := 40) C X101 d28_39 rfl rfl ?_
  have c102 : AL Z h101 v kv (.object "java/lang/Object") [(.ref d)] := (AL.ext E101 Av)
  refine Go.ldR (i := 0) (v := (.ref d)) (pc' := 41) C X101 e101 c102 (by decide) (by decide) rfl rfl d28_40 rfl ?_
  have O104 : Ext Z.heap h101 := (Ext.trans O0 E101)
  refine Go.callI (y := (⟨"java/util/ImmutableCollections$List12", "<init>", "(Ljava/lang/Object;)V"⟩ : MethodName)) (a := b101) (pc' := 44) C X101 rfl (tw hw 252 rfl) (tw hw 253 rfl) (by decide) (rm_l1I l Z a0 hw b101 d em h101 O104 A101 F101_e0 F101_e1 SE n_b101) (tw hw 254 rfl) (tw hw 231 rfl) e101 (argsL := [(.ref d)]) (rest := [(.ref b101)]) (W := 1) rfl rfl pd_11 rfl (Nat.le_of_eq rfl) rfl (by decide) (by decide) (by decide) (by decide) rfl d28_41 rfl ?_
  intro T103 v103 L103 X103 q103
  obtain ⟨rfl, N103q, K103, P103_0⟩ := q103
  have N103 := Fr.app N0 N103q
  have K105 : Keep h0 T103.heap [] := (((Keep.refl h0 []).ext E101).trans K103 (allS (Or.inr z_b101) all0))
  have c106 : Exa Z T103.heap b101 "java/util/ImmutableCollections$List12" := (Exa.keep A101 K103)
  exact Go.retA C X103 rfl d28_44 rfl rfl rfl ⟨b101, rfl, N103, K105, z_b101, c106, P103_0⟩ (by decide) (by decide)
def Q_emp2 (Z : State) (r : Addr) (h0 : Heap) (rv : Option Value) (h : Heap) (L : List Loc) : Prop := rv = some (.int (0 : Int32)) ∧ L = [] ∧ h = h0
set_option maxRecDepth 65536 in
set_option maxHeartbeats 40000000 in
theorem rm_emp2 (l : Launch) (Z : State) (a0 : Array Value) (hw : ∀ d ∈ tables_1, d.before a0 Z = true) (r : Addr) (h0 : Heap) (O0 : Ext Z.heap h0) (F3 : Fld Z h0 r "java/util/ArrayList" "size" "I" (.int (2 : Int32))) :
    Met1 l Z (⟨"java/util/ArrayList", "isEmpty", "()Z"⟩ : MethodName) jdk_38_method_9_code 1 (some .boolean) ({ frames := 0, cells := 0, slots := 0, locals := 0 } : Room) #[(.ref r)] h0 (Q_emp2 Z r h0) := by
  refine Met1.of_body (Ls := #[.val (.ref r)]) pf_15 (fun m => by first | (simp [entryFrame, mkF, argsToLocals, Value.category]; done) | rfl) ?_
  intro p e s m below meth c T0 C X0 e0
  have N0 : Fr Z.heap.size [] := Fr.nil _
  refine Go.aloadN (pc' := 1) C X0 d15_0 rfl rfl rfl ?_
  refine Go.getF (pc' := 4) (host := "") C X0 (Or.inl (tw hw 109 rfl)) Via.refl e0 F3 d15_1 rfl ?_
  intro T101 X101 e101
  refine Go.ifYes (pc' := 11) C X101 d15_4 ((if0 _ _).trans (feq (x := (2 : Int32)) (y := (0 : Int32)) (by decide)).2) (by decide) (by decide) ?_
  refine Go.iconst (z := (0 : Int32)) (pc' := 12) C X101 d15_11 rfl rfl ?_
  exact Go.retN C X101 rfl d15_12 (by simp) (by rw [e101]; exact ⟨rfl, rfl, rfl⟩) (by decide) (by decide)
def Q_mn2 (Z : State)  (h0 : Heap) (rv : Option Value) (h : Heap) (L : List Loc) : Prop := rv = some (.int (2 : Int32)) ∧ L = [] ∧ h = h0
set_option maxRecDepth 65536 in
set_option maxHeartbeats 40000000 in
theorem rm_mn2 (l : Launch) (Z : State) (a0 : Array Value) (hw : ∀ d ∈ tables_1, d.before a0 Z = true)  (h0 : Heap) (O0 : Ext Z.heap h0) :
    Met1 l Z (⟨"java/lang/Math", "min", "(II)I"⟩ : MethodName) jdk_29_method_69_code 2 (some .int) ({ frames := 0, cells := 0, slots := 0, locals := 0 } : Room) #[(.int (10 : Int32)), (.int (2 : Int32))] h0 (Q_mn2 Z  h0) := by
  refine Met1.of_body (Ls := #[.val (.int (10 : Int32)), .val (.int (2 : Int32))]) pf_27 (fun m => by first | (simp [entryFrame, mkF, argsToLocals, Value.category]; done) | rfl) ?_
  intro p e s m below meth c T0 C X0 e0
  have N0 : Fr Z.heap.size [] := Fr.nil _
  refine Go.iloadN (pc' := 1) C X0 d27_0 rfl rfl ?_
  refine Go.iloadN (pc' := 2) C X0 d27_1 rfl rfl ?_
  refine Go.icmpYes (pc' := 9) C X0 d27_2 (tlt (x := (2 : Int32)) (y := (10 : Int32)) (by decide)).2.2.1 (by decide) (by decide) ?_
  refine Go.iloadN (pc' := 10) C X0 d27_9 rfl rfl ?_
  exact Go.retI C X0 rfl d27_10 (by rw [e0]; exact ⟨rfl, rfl, rfl⟩) (by decide) (by decide)
def Q_cpc2 (Z : State) (d : Addr) (w : Addr) (kw : ClassId) (mr : Addr) (h0 : Heap) (rv : Option Value) (h : Heap) (L : List Loc) : Prop := ∃ v : Addr, ∃ kv : ClassId, rv = some (.ref v) ∧ Fr Z.heap.size L ∧ Keep h0 h [] ∧ h0.size ≤ v ∧ AL Z h v kv (.object "java/lang/Object") [(.ref d), (.ref d)]
set_option maxRecDepth 65536 in
set_option maxHeartbeats 40000000 in
theorem rm_cpc2 (l : Launch) (Z : State) (a0 : Array Value) (hw : ∀ d ∈ tables_1, d.before a0 Z = true) (d : Addr) (w : Addr) (kw : ClassId) (mr : Addr) (h0 : Heap) (O0 : Ext Z.heap h0) (Ew : Exa Z h0 w "[Ljava/lang/Object;") (Aw : AL Z h0 w kw (.object "java/lang/Object") [(.ref d), (.ref d), .null, .null, .null, .null, .null, .null, .null, .null]) (Ed : Exa Z h0 d "com/example/tranche/tranche/journal/DefaultRateChange") (hM : Mir Z "[Ljava/lang/Object;" mr) :
    Met1 l Z (⟨"java/util/Arrays", "copyOf", "([Ljava/lang/Object;ILjava/lang/Class;)[Ljava/lang/Object;"⟩ : MethodName) jdk_65_method_120_code 4 (some (.array (.object "java/lang/Object"))) ({ frames := 1, cells := 1, slots := 2, locals := 18 } : Room) #[(.ref w), (.int (2 : Int32)), (.ref mr)] h0 (Q_cpc2 Z d w kw mr h0) := by
  refine Met1.of_body (Ls := #[.val (.ref w), .val (.int (2 : Int32)), .val (.ref mr), .unset]) pf_26 (fun m => by first | (simp [entryFrame, mkF, argsToLocals, Value.category]; done) | rfl) ?_
  intro p e s m below meth c T0 C X0 e0
  have N0 : Fr Z.heap.size [] := Fr.nil _
  refine Go.aloadN (pc' := 1) C X0 d26_0 rfl rfl rfl ?_
  refine Go.ldcM (pc' := 3) C X0 (tw hw 188 rfl) e0 hM d26_1 rfl ?_
  intro T101 X101 e101
  refine Go.acmpNo (pc' := 6) C X101 d26_3 rfl rfl (XT.aa_ne_f rfl) rfl ?_
  refine Go.iloadN (pc' := 7) C X101 d26_6 rfl rfl ?_
  refine Go.newR (cap := 2) (vs := [.null, .null]) (ad := "[Ljava/lang/Object;") (pc' := 10) C X101 (by decide) (tw hw 189 rfl) (tw hw 148 rfl) e101 (by decide) (by decide) (by decide) (by decide) (by decide) rfl d26_7 rfl ?_
  intro T102 h102 b102 k102 X102 e102 g102 E102 A102 Ea102 O102v
  have n_b102 : Z.heap.size ≤ b102 := Nat.le_trans O0.1 (Nat.le_of_eq g102.symm)
  have z_b102 : h0.size ≤ b102 := Nat.le_trans (Nat.le_refl _) (Nat.le_of_eq g102.symm)
  have A102 : AL Z h102 b102 k102 (.object "java/lang/Object") [.null, .null] := A102
  refine Go.goto (pc' := 24) C X102 d26_10 (by decide) (by decide) ?_
  refine Go.astoreN (Ls' := #[.val (.ref w), .val (.int (2 : Int32)), .val (.ref mr), .val (.ref b102)]) (pc' := 25) C X102 d26_24 rfl rfl rfl ?_
  refine Go.aloadN (pc' := 26) C X102 d26_25 rfl rfl rfl ?_
  refine Go.iconst (z := (0 : Int32)) (pc' := 27) C X102 d26_26 rfl rfl ?_
  refine Go.aloadN (pc' := 28) C X102 d26_27 rfl rfl rfl ?_
  refine Go.iconst (z := (0 : Int32)) (pc' := 29) C X102 d26_28 rfl rfl ?_
  refine Go.aloadN (pc' := 30) C X102 d26_29 rfl rfl rfl ?_
  have c103 : AL Z h102 w kw (.object "java/lang/Object") [(.ref d), (.ref d), .null, .null, .null, .null, .null, .null, .null, .null] := (AL.ext E102 Aw)
  refine Go.alen (z := (10 : Int32)) (pc' := 31) C X102 e102 c103 rfl d26_30 rfl ?_
  refine Go.iloadN (pc' := 32) C X102 d26_31 rfl rfl ?_
  have O105 : Ext Z.heap h102 := (Ext.trans O0 E102)
  refine Go.callS (y := (⟨"java/lang/Math", "min", "(II)I"⟩ : MethodName)) (pc' := 35) C X102 (tw hw 190 rfl) (tw hw 191 rfl) (by decide) (rm_mn2 l Z a0 hw  h102 O105 ) (tw hw 192 rfl) (tw hw 145 rfl) e102 (argsL := [(.int (10 : Int32)), (.int (2 : Int32))]) (rest := [(.int (0 : Int32)), (.ref b102), (.int (0 : Int32)), (.ref w)]) (W := 4) rfl rfl pd_4 rfl (Nat.le_of_eq rfl) rfl (by decide) (by decide) (by decide) (by decide) d26_32 rfl ?_
  intro T104 v104 L104 X104 q104
  obtain ⟨rfl, rfl, e104⟩ := q104
  have N104 := Fr.app N0 (Fr.nil _)
  have c107 : Exa Z h102 d "com/example/tranche/tranche/journal/DefaultRateChange" := (Exa.ext E102 Ed)
  refine Go.arrcopy (i := 0) (j := 0) (n := 2) (vd' := [(.ref d), (.ref d)]) (W := 0) (n0 := Z.heap.size) (pc' := 38) C X104 (tw hw 193 rfl) (tw hw 196 rfl) (tw hw 194 rfl) (tw hw 195 rfl) e104 c103 A102 (by simp [fits]) (by simp [fits]) (by simp) (by simp) (Or.inr ⟨rfl, rfl, ⟨(AL.sto A102 O102v (Ins.of_exa c107 (tw hw 149 rfl))), ⟨(AL.sto A102 O102v (Ins.of_exa c107 (tw hw 149 rfl))), trivial⟩⟩⟩) (by decide) (by decide) (by decide) (by decide) (by decide) (by decide) (by simp) (by simp) rfl N104 n_b102 rfl (by decide) (Nat.le_of_eq rfl) (by decide) d26_35 rfl ?_
  intro T106 h106 L106 X106 e106 N106 K106 A106
  refine Go.aloadN (pc' := 39) C X106 d26_38 rfl rfl rfl ?_
  have K108 : Keep h0 h106 [] := (((Keep.refl h0 []).ext E102).trans K106 (allS (Or.inr z_b102) all0))
  exact Go.retA C X106 rfl d26_39 rfl rfl rfl (by rw [e106]; exact ⟨b102, k102, rfl, N106, K108, z_b102, A106⟩) (by decide) (by decide)
def Q_cp2 (Z : State) (d : Addr) (w : Addr) (kw : ClassId) (mr : Addr) (h0 : Heap) (rv : Option Value) (h : Heap) (L : List Loc) : Prop := ∃ v : Addr, ∃ kv : ClassId, rv = some (.ref v) ∧ Fr Z.heap.size L ∧ Keep h0 h [] ∧ h0.size ≤ v ∧ AL Z h v kv (.object "java/lang/Object") [(.ref d), (.ref d)]
set_option maxRecDepth 65536 in
set_option maxHeartbeats 40000000 in
theorem rm_cp2 (l : Launch) (Z : State) (a0 : Array Value) (hw : ∀ d ∈ tables_1, d.before a0 Z = true) (d : Addr) (w : Addr) (kw : ClassId) (mr : Addr) (h0 : Heap) (O0 : Ext Z.heap h0) (Ew : Exa Z h0 w "[Ljava/lang/Object;") (Aw : AL Z h0 w kw (.object "java/lang/Object") [(.ref d), (.ref d), .null, .null, .null, .null, .null, .null, .null, .null]) (Ed : Exa Z h0 d "com/example/tranche/tranche/journal/DefaultRateChange") (hM : Mir Z "[Ljava/lang/Object;" mr) :
    Met1 l Z (⟨"java/util/Arrays", "copyOf", "([Ljava/lang/Object;I)[Ljava/lang/Object;"⟩ : MethodName) jdk_65_method_119_code 2 (some (.array (.object "java/lang/Object"))) ({ frames := 2, cells := 1, slots := 2, locals := 33 } : Room) #[(.ref w), (.int (2 : Int32))] h0 (Q_cp2 Z d w kw mr h0) := by
  refine Met1.of_body (Ls := #[.val (.ref w), .val (.int (2 : Int32))]) pf_25 (fun m => by first | (simp [entryFrame, mkF, argsToLocals, Value.category]; done) | rfl) ?_
  intro p e s m below meth c T0 C X0 e0
  have N0 : Fr Z.heap.size [] := Fr.nil _
  refine Go.aloadN (pc' := 1) C X0 d25_0 rfl rfl rfl ?_
  refine Go.iloadN (pc' := 2) C X0 d25_1 rfl rfl ?_
  refine Go.aloadN (pc' := 3) C X0 d25_2 rfl rfl rfl ?_
  refine Go.gcls (W := 2) (pc' := 6) C X0 (tw hw 179 rfl) (tw hw 180 rfl) (tw hw 98 rfl) (tw hw 182 rfl) (tw hw 181 rfl) (tw hw 183 rfl) e0 Ew hM rfl (by decide) (Nat.le_of_eq rfl) (by decide) d25_3 rfl ?_
  intro T101 X101 e101
  refine Go.callS (y := (⟨"java/util/Arrays", "copyOf", "([Ljava/lang/Object;ILjava/lang/Class;)[Ljava/lang/Object;"⟩ : MethodName)) (pc' := 9) C X101 (tw hw 185 rfl) (tw hw 186 rfl) (by decide) (rm_cpc2 l Z a0 hw d w kw mr h0 O0 Ew Aw Ed hM) (tw hw 187 rfl) (tw hw 177 rfl) e101 (argsL := [(.ref w), (.int (2 : Int32)), (.ref mr)]) (rest := []) (W := 0) rfl rfl pd_9 rfl (Nat.le_of_eq rfl) rfl (by decide) (by decide) (by decide) (by decide) d25_6 rfl ?_
  intro T102 v102 L102 X102 q102
  obtain ⟨v_102, kv_102, rfl, N102q, K102, B102_0, P102_0⟩ := q102
  have N102 := Fr.app N0 N102q
  have n_v_102 : Z.heap.size ≤ v_102 := Nat.le_trans O0.1 B102_0
  have z_v_102 : h0.size ≤ v_102 := Nat.le_trans (Nat.le_refl _) B102_0
  have K103 : Keep h0 T102.heap [] := ((Keep.refl h0 []).trans K102 all0)
  exact Go.retA C X102 rfl d25_9 rfl rfl rfl ⟨v_102, kv_102, rfl, N102, K103, z_v_102, P102_0⟩ (by decide) (by decide)
def Q_ta2 (Z : State) (r : Addr) (d : Addr) (w : Addr) (kw : ClassId) (mr : Addr) (h0 : Heap) (rv : Option Value) (h : Heap) (L : List Loc) : Prop := ∃ v : Addr, ∃ kv : ClassId, rv = some (.ref v) ∧ Fr Z.heap.size L ∧ Keep h0 h [] ∧ h0.size ≤ v ∧ AL Z h v kv (.object "java/lang/Object") [(.ref d), (.ref d)]
set_option maxRecDepth 65536 in
set_option maxHeartbeats 40000000 in
theorem rm_ta2 (l : Launch) (Z : State) (a0 : Array Value) (hw : ∀ d ∈ tables_1, d.before a0 Z = true) (r : Addr) (d : Addr) (w : Addr) (kw : ClassId) (mr : Addr) (h0 : Heap) (O0 : Ext Z.heap h0) (F2 : Fld Z h0 r "java/util/ArrayList" "elementData" "[Ljava/lang/Object;" (.ref w)) (F3 : Fld Z h0 r "java/util/ArrayList" "size" "I" (.int (2 : Int32))) (Ew : Exa Z h0 w "[Ljava/lang/Object;") (Aw : AL Z h0 w kw (.object "java/lang/Object") [(.ref d), (.ref d), .null, .null, .null, .null, .null, .null, .null, .null]) (Ed : Exa Z h0 d "com/example/tranche/tranche/journal/DefaultRateChange") (hM : Mir Z "[Ljava/lang/Object;" mr) :
    Met1 l Z (⟨"java/util/ArrayList", "toArray", "()[Ljava/lang/Object;"⟩ : MethodName) jdk_38_method_16_code 1 (some (.array (.object "java/lang/Object"))) ({ frames := 3, cells := 1, slots := 2, locals := 46 } : Room) #[(.ref r)] h0 (Q_ta2 Z r d w kw mr h0) := by
  refine Met1.of_body (Ls := #[.val (.ref r)]) pf_24 (fun m => by first | (simp [entryFrame, mkF, argsToLocals, Value.category]; done) | rfl) ?_
  intro p e s m below meth c T0 C X0 e0
  have N0 : Fr Z.heap.size [] := Fr.nil _
  refine Go.aloadN (pc' := 1) C X0 d24_0 rfl rfl rfl ?_
  refine Go.getF (pc' := 4) (host := "") C X0 (Or.inl (tw hw 77 rfl)) Via.refl e0 F2 d24_1 rfl ?_
  intro T101 X101 e101
  refine Go.aloadN (pc' := 5) C X101 d24_4 rfl rfl rfl ?_
  refine Go.getF (pc' := 8) (host := "") C X101 (Or.inl (tw hw 109 rfl)) Via.refl e101 F3 d24_5 rfl ?_
  intro T102 X102 e102
  refine Go.callS (y := (⟨"java/util/Arrays", "copyOf", "([Ljava/lang/Object;I)[Ljava/lang/Object;"⟩ : MethodName)) (pc' := 11) C X102 (tw hw 175 rfl) (tw hw 176 rfl) (by decide) (rm_cp2 l Z a0 hw d w kw mr h0 O0 Ew Aw Ed hM) (tw hw 178 rfl) (tw hw 177 rfl) e102 (argsL := [(.ref w), (.int (2 : Int32))]) (rest := []) (W := 0) rfl rfl pd_10 rfl (Nat.le_of_eq rfl) rfl (by decide) (by decide) (by decide) (by decide) d24_8 rfl ?_
  intro T103 v103 L103 X103 q103
  obtain ⟨v_103, kv_103, rfl, N103q, K103, B103_0, P103_0⟩ := q103
  have N103 := Fr.app N0 N103q
  have n_v_103 : Z.heap.size ≤ v_103 := Nat.le_trans O0.1 B103_0
  have z_v_103 : h0.size ≤ v_103 := Nat.le_trans (Nat.le_refl _) B103_0
  have K104 : Keep h0 T103.heap [] := ((Keep.refl h0 []).trans K103 all0)
  exact Go.retA C X103 rfl d24_11 rfl rfl rfl ⟨v_103, kv_103, rfl, N103, K104, z_v_103, P103_0⟩ (by decide) (by decide)
theorem pd_12 : parseMethodDescriptor "(Ljava/lang/Object;Ljava/lang/Object;)V" = some ⟨[(.object "java/lang/Object"), (.object "java/lang/Object")], none⟩ := by decide +kernel
theorem d28_45 : decode jdk_40_method_47_code 45 = .ok (.new 96, 3) := by decide +kernel
theorem d28_48 : decode jdk_40_method_47_code 48 = .ok (.dup, 1) := by decide +kernel
theorem d28_49 : decode jdk_40_method_47_code 49 = .ok (.aload_n 0, 1) := by decide +kernel
theorem d28_50 : decode jdk_40_method_47_code 50 = .ok (.iconst 0, 1) := by decide +kernel
theorem d28_51 : decode jdk_40_method_47_code 51 = .ok (.aaload, 1) := by decide +kernel
theorem d28_52 : decode jdk_40_method_47_code 52 = .ok (.aload_n 0, 1) := by decide +kernel
theorem d28_53 : decode jdk_40_method_47_code 53 = .ok (.iconst 1, 1) := by decide +kernel
theorem d28_54 : decode jdk_40_method_47_code 54 = .ok (.aaload, 1) := by decide +kernel
theorem d28_55 : decode jdk_40_method_47_code 55 = .ok (.invokespecial 100, 3) := by decide +kernel
theorem d28_58 : decode jdk_40_method_47_code 58 = .ok (.areturn, 1) := by decide +kernel
def Q_lof2 (Z : State) (d : Addr) (v : Addr) (kv : ClassId) (h0 : Heap) (rv : Option Value) (h : Heap) (L : List Loc) : Prop := ∃ r : Addr, rv = some (.ref r) ∧ Fr Z.heap.size L ∧ Keep h0 h [] ∧ h0.size ≤ r ∧ Exa Z h r "java/util/ImmutableCollections$List12" ∧ Fld Z h r "java/util/ImmutableCollections$List12" "e1" "Ljava/lang/Object;" (.ref d)
set_option maxRecDepth 65536 in
set_option maxHeartbeats 40000000 in
theorem rm_lof2 (l : Launch) (Z : State) (a0 : Array Value) (hw : ∀ d ∈ tables_1, d.before a0 Z = true) (d : Addr) (v : Addr) (kv : ClassId) (h0 : Heap) (O0 : Ext Z.heap h0) (Av : AL Z h0 v kv (.object "java/lang/Object") [(.ref d), (.ref d)]) (Ed : Exa Z h0 d "com/example/tranche/tranche/journal/DefaultRateChange") :
    Met1 l Z (⟨"java/util/List", "of", "([Ljava/lang/Object;)Ljava/util/List;"⟩ : MethodName) jdk_40_method_47_code 2 (some (.object "java/util/List")) ({ frames := 5, cells := 1, slots := 2, locals := 63 } : Room) #[(.ref v)] h0 (Q_lof2 Z d v kv h0) := by
  refine Met1.of_body (Ls := #[.val (.ref v), .unset]) pf_28 (fun m => by first | (simp [entryFrame, mkF, argsToLocals, Value.category]; done) | rfl) ?_
  intro p e s m below meth c T0 C X0 e0
  have N0 : Fr Z.heap.size [] := Fr.nil _
  refine Go.aloadN (pc' := 1) C X0 d28_0 rfl rfl rfl ?_
  refine Go.alen (z := (2 : Int32)) (pc' := 2) C X0 e0 Av rfl d28_1 rfl ?_
  refine Go.tswIn (pc' := 45) (o := 43) C X0 d28_2 (by decide) (by decide) (by decide) (by decide) ?_
  refine Go.newO (pc' := 48) C X0 (tw hw 229 rfl) (tw hw 230 rfl) (tw hw 231 rfl) e0 (by decide) (by decide) d28_45 rfl ?_
  intro T101 h101 b101 X101 e101 g101 E101 A101 D101
  have n_b101 : Z.heap.size ≤ b101 := Nat.le_trans O0.1 (Nat.le_of_eq g101.symm)
  have z_b101 : h0.size ≤ b101 := Nat.le_trans (Nat.le_refl _) (Nat.le_of_eq g101.symm)
  have F101_e0 : Fld Z h101 b101 "java/util/ImmutableCollections$List12" "e0" "Ljava/lang/Object;" .null := D101 (Or.inr (tw hw 242 rfl)) (ty := (.object "java/lang/Object")) (by decide)
  have F101_e1 : Fld Z h101 b101 "java/util/ImmutableCollections$List12" "e1" "Ljava/lang/Object;" .null := D101 (Or.inr (tw hw 244 rfl)) (ty := (.object "java/lang/Object")) (by decide)
  refine Go.dup (pc' := 49) C X101 d28_48 rfl rfl ?_
  refine Go.aloadN (pc' := 50) C X101 d28_49 rfl rfl rfl ?_
  refine Go.iconst (z := (0 : Int32)) (pc' := 51) C X101 d28_50 rfl rfl ?_
  have c102 : AL Z h101 v kv (.object "java/lang/Object") [(.ref d), (.ref d)] := (AL.ext E101 Av)
  refine Go.ldR (i := 0) (v := (.ref d)) (pc' := 52) C X101 e101 c102 (by decide) (by decide) rfl rfl d28_51 rfl ?_
  refine Go.aloadN (pc' := 53) C X101 d28_52 rfl rfl rfl ?_
  refine Go.iconst (z := (1 : Int32)) (pc' := 54) C X101 d28_53 rfl rfl ?_
  refine Go.ldR (i := 1) (v := (.ref d)) (pc' := 55) C X101 e101 c102 (by decide) (by decide) rfl rfl d28_54 rfl ?_
  have O104 : Ext Z.heap h101 := (Ext.trans O0 E101)
  refine Go.callI (y := (⟨"java/util/ImmutableCollections$List12", "<init>", "(Ljava/lang/Object;Ljava/lang/Object;)V"⟩ : MethodName)) (a := b101) (pc' := 58) C X101 rfl (tw hw 232 rfl) (tw hw 233 rfl) (by decide) (rm_l2I l Z a0 hw b101 d h101 O104 A101 F101_e0 F101_e1 n_b101) (tw hw 235 rfl) (tw hw 231 rfl) e101 (argsL := [(.ref d), (.ref d)]) (rest := [(.ref b101)]) (W := 1) rfl rfl pd_12 rfl (Nat.le_of_eq rfl) rfl (by decide) (by decide) (by decide) (by decide) rfl d28_55 rfl ?_
  intro T103 v103 L103 X103 q103
  obtain ⟨rfl, N103q, K103, P103_0⟩ := q103
  have N103 := Fr.app N0 N103q
  have K105 : Keep h0 T103.heap [] := (((Keep.refl h0 []).ext E101).trans K103 (allS (Or.inr z_b101) all0))
  have c106 : Exa Z T103.heap b101 "java/util/ImmutableCollections$List12" := (Exa.keep A101 K103)
  exact Go.retA C X103 rfl d28_58 rfl rfl rfl ⟨b101, rfl, N103, K105, z_b101, c106, P103_0⟩ (by decide) (by decide)
def Q_emp3 (Z : State) (r : Addr) (h0 : Heap) (rv : Option Value) (h : Heap) (L : List Loc) : Prop := rv = some (.int (0 : Int32)) ∧ L = [] ∧ h = h0
set_option maxRecDepth 65536 in
set_option maxHeartbeats 40000000 in
theorem rm_emp3 (l : Launch) (Z : State) (a0 : Array Value) (hw : ∀ d ∈ tables_1, d.before a0 Z = true) (r : Addr) (h0 : Heap) (O0 : Ext Z.heap h0) (F3 : Fld Z h0 r "java/util/ArrayList" "size" "I" (.int (3 : Int32))) :
    Met1 l Z (⟨"java/util/ArrayList", "isEmpty", "()Z"⟩ : MethodName) jdk_38_method_9_code 1 (some .boolean) ({ frames := 0, cells := 0, slots := 0, locals := 0 } : Room) #[(.ref r)] h0 (Q_emp3 Z r h0) := by
  refine Met1.of_body (Ls := #[.val (.ref r)]) pf_15 (fun m => by first | (simp [entryFrame, mkF, argsToLocals, Value.category]; done) | rfl) ?_
  intro p e s m below meth c T0 C X0 e0
  have N0 : Fr Z.heap.size [] := Fr.nil _
  refine Go.aloadN (pc' := 1) C X0 d15_0 rfl rfl rfl ?_
  refine Go.getF (pc' := 4) (host := "") C X0 (Or.inl (tw hw 109 rfl)) Via.refl e0 F3 d15_1 rfl ?_
  intro T101 X101 e101
  refine Go.ifYes (pc' := 11) C X101 d15_4 ((if0 _ _).trans (feq (x := (3 : Int32)) (y := (0 : Int32)) (by decide)).2) (by decide) (by decide) ?_
  refine Go.iconst (z := (0 : Int32)) (pc' := 12) C X101 d15_11 rfl rfl ?_
  exact Go.retN C X101 rfl d15_12 (by simp) (by rw [e101]; exact ⟨rfl, rfl, rfl⟩) (by decide) (by decide)
def Q_mn3 (Z : State)  (h0 : Heap) (rv : Option Value) (h : Heap) (L : List Loc) : Prop := rv = some (.int (3 : Int32)) ∧ L = [] ∧ h = h0
set_option maxRecDepth 65536 in
set_option maxHeartbeats 40000000 in
theorem rm_mn3 (l : Launch) (Z : State) (a0 : Array Value) (hw : ∀ d ∈ tables_1, d.before a0 Z = true)  (h0 : Heap) (O0 : Ext Z.heap h0) :
    Met1 l Z (⟨"java/lang/Math", "min", "(II)I"⟩ : MethodName) jdk_29_method_69_code 2 (some .int) ({ frames := 0, cells := 0, slots := 0, locals := 0 } : Room) #[(.int (10 : Int32)), (.int (3 : Int32))] h0 (Q_mn3 Z  h0) := by
  refine Met1.of_body (Ls := #[.val (.int (10 : Int32)), .val (.int (3 : Int32))]) pf_27 (fun m => by first | (simp [entryFrame, mkF, argsToLocals, Value.category]; done) | rfl) ?_
  intro p e s m below meth c T0 C X0 e0
  have N0 : Fr Z.heap.size [] := Fr.nil _
  refine Go.iloadN (pc' := 1) C X0 d27_0 rfl rfl ?_
  refine Go.iloadN (pc' := 2) C X0 d27_1 rfl rfl ?_
  refine Go.icmpYes (pc' := 9) C X0 d27_2 (tlt (x := (3 : Int32)) (y := (10 : Int32)) (by decide)).2.2.1 (by decide) (by decide) ?_
  refine Go.iloadN (pc' := 10) C X0 d27_9 rfl rfl ?_
  exact Go.retI C X0 rfl d27_10 (by rw [e0]; exact ⟨rfl, rfl, rfl⟩) (by decide) (by decide)
def Q_cpc3 (Z : State) (d : Addr) (w : Addr) (kw : ClassId) (mr : Addr) (h0 : Heap) (rv : Option Value) (h : Heap) (L : List Loc) : Prop := ∃ v : Addr, ∃ kv : ClassId, rv = some (.ref v) ∧ Fr Z.heap.size L ∧ Keep h0 h [] ∧ h0.size ≤ v ∧ AL Z h v kv (.object "java/lang/Object") [(.ref d), (.ref d), (.ref d)]
set_option maxRecDepth 65536 in
set_option maxHeartbeats 40000000 in
theorem rm_cpc3 (l : Launch) (Z : State) (a0 : Array Value) (hw : ∀ d ∈ tables_1, d.before a0 Z = true) (d : Addr) (w : Addr) (kw : ClassId) (mr : Addr) (h0 : Heap) (O0 : Ext Z.heap h0) (Ew : Exa Z h0 w "[Ljava/lang/Object;") (Aw : AL Z h0 w kw (.object "java/lang/Object") [(.ref d), (.ref d), (.ref d), .null, .null, .null, .null, .null, .null, .null]) (Ed : Exa Z h0 d "com/example/tranche/tranche/journal/DefaultRateChange") (hM : Mir Z "[Ljava/lang/Object;" mr) :
    Met1 l Z (⟨"java/util/Arrays", "copyOf", "([Ljava/lang/Object;ILjava/lang/Class;)[Ljava/lang/Object;"⟩ : MethodName) jdk_65_method_120_code 4 (some (.array (.object "java/lang/Object"))) ({ frames := 1, cells := 1, slots := 3, locals := 18 } : Room) #[(.ref w), (.int (3 : Int32)), (.ref mr)] h0 (Q_cpc3 Z d w kw mr h0) := by
  refine Met1.of_body (Ls := #[.val (.ref w), .val (.int (3 : Int32)), .val (.ref mr), .unset]) pf_26 (fun m => by first | (simp [entryFrame, mkF, argsToLocals, Value.category]; done) | rfl) ?_
  intro p e s m below meth c T0 C X0 e0
  have N0 : Fr Z.heap.size [] := Fr.nil _
  refine Go.aloadN (pc' := 1) C X0 d26_0 rfl rfl rfl ?_
  refine Go.ldcM (pc' := 3) C X0 (tw hw 188 rfl) e0 hM d26_1 rfl ?_
  intro T101 X101 e101
  refine Go.acmpNo (pc' := 6) C X101 d26_3 rfl rfl (XT.aa_ne_f rfl) rfl ?_
  refine Go.iloadN (pc' := 7) C X101 d26_6 rfl rfl ?_
  refine Go.newR (cap := 3) (vs := [.null, .null, .null]) (ad := "[Ljava/lang/Object;") (pc' := 10) C X101 (by decide) (tw hw 189 rfl) (tw hw 148 rfl) e101 (by decide) (by decide) (by decide) (by decide) (by decide) rfl d26_7 rfl ?_
  intro T102 h102 b102 k102 X102 e102 g102 E102 A102 Ea102 O102v
  have n_b102 : Z.heap.size ≤ b102 := Nat.le_trans O0.1 (Nat.le_of_eq g102.symm)
  have z_b102 : h0.size ≤ b102 := Nat.le_trans (Nat.le_refl _) (Nat.le_of_eq g102.symm)
  have A102 : AL Z h102 b102 k102 (.object "java/lang/Object") [.null, .null, .null] := A102
  refine Go.goto (pc' := 24) C X102 d26_10 (by decide) (by decide) ?_
  refine Go.astoreN (Ls' := #[.val (.ref w), .val (.int (3 : Int32)), .val (.ref mr), .val (.ref b102)]) (pc' := 25) C X102 d26_24 rfl rfl rfl ?_
  refine Go.aloadN (pc' := 26) C X102 d26_25 rfl rfl rfl ?_
  refine Go.iconst (z := (0 : Int32)) (pc' := 27) C X102 d26_26 rfl rfl ?_
  refine Go.aloadN (pc' := 28) C X102 d26_27 rfl rfl rfl ?_
  refine Go.iconst (z := (0 : Int32)) (pc' := 29) C X102 d26_28 rfl rfl ?_
  refine Go.aloadN (pc' := 30) C X102 d26_29 rfl rfl rfl ?_
  have c103 : AL Z h102 w kw (.object "java/lang/Object") [(.ref d), (.ref d), (.ref d), .null, .null, .null, .null, .null, .null, .null] := (AL.ext E102 Aw)
  refine Go.alen (z := (10 : Int32)) (pc' := 31) C X102 e102 c103 rfl d26_30 rfl ?_
  refine Go.iloadN (pc' := 32) C X102 d26_31 rfl rfl ?_
  have O105 : Ext Z.heap h102 := (Ext.trans O0 E102)
  refine Go.callS (y := (⟨"java/lang/Math", "min", "(II)I"⟩ : MethodName)) (pc' := 35) C X102 (tw hw 190 rfl) (tw hw 191 rfl) (by decide) (rm_mn3 l Z a0 hw  h102 O105 ) (tw hw 192 rfl) (tw hw 145 rfl) e102 (argsL := [(.int (10 : Int32)), (.int (3 : Int32))]) (rest := [(.int (0 : Int32)), (.ref b102), (.int (0 : Int32)), (.ref w)]) (W := 4) rfl rfl pd_4 rfl (Nat.le_of_eq rfl) rfl (by decide) (by decide) (by decide) (by decide) d26_32 rfl ?_
  intro T104 v104 L104 X104 q104
  obtain ⟨rfl, rfl, e104⟩ := q104
  have N104 := Fr.app N0 (Fr.nil _)
  have c107 : Exa Z h102 d "com/example/tranche/tranche/journal/DefaultRateChange" := (Exa.ext E102 Ed)
  refine Go.arrcopy (i := 0) (j := 0) (n := 3) (vd' := [(.ref d), (.ref d), (.ref d)]) (W := 0) (n0 := Z.heap.size) (pc' := 38) C X104 (tw hw 193 rfl) (tw hw 196 rfl) (tw hw 194 rfl) (tw hw 195 rfl) e104 c103 A102 (by simp [fits]) (by simp [fits]) (by simp) (by simp) (Or.inr ⟨rfl, rfl, ⟨(AL.sto A102 O102v (Ins.of_exa c107 (tw hw 149 rfl))), ⟨(AL.sto A102 O102v (Ins.of_exa c107 (tw hw 149 rfl))), ⟨(AL.sto A102 O102v (Ins.of_exa c107 (tw hw 149 rfl))), trivial⟩⟩⟩⟩) (by decide) (by decide) (by decide) (by decide) (by decide) (by decide) (by simp) (by simp) rfl N104 n_b102 rfl (by decide) (Nat.le_of_eq rfl) (by decide) d26_35 rfl ?_
  intro T106 h106 L106 X106 e106 N106 K106 A106
  refine Go.aloadN (pc' := 39) C X106 d26_38 rfl rfl rfl ?_
  have K108 : Keep h0 h106 [] := (((Keep.refl h0 []).ext E102).trans K106 (allS (Or.inr z_b102) all0))
  exact Go.retA C X106 rfl d26_39 rfl rfl rfl (by rw [e106]; exact ⟨b102, k102, rfl, N106, K108, z_b102, A106⟩) (by decide) (by decide)
def Q_cp3 (Z : State) (d : Addr) (w : Addr) (kw : ClassId) (mr : Addr) (h0 : Heap) (rv : Option Value) (h : Heap) (L : List Loc) : Prop := ∃ v : Addr, ∃ kv : ClassId, rv = some (.ref v) ∧ Fr Z.heap.size L ∧ Keep h0 h [] ∧ h0.size ≤ v ∧ AL Z h v kv (.object "java/lang/Object") [(.ref d), (.ref d), (.ref d)]
set_option maxRecDepth 65536 in
set_option maxHeartbeats 40000000 in
theorem rm_cp3 (l : Launch) (Z : State) (a0 : Array Value) (hw : ∀ d ∈ tables_1, d.before a0 Z = true) (d : Addr) (w : Addr) (kw : ClassId) (mr : Addr) (h0 : Heap) (O0 : Ext Z.heap h0) (Ew : Exa Z h0 w "[Ljava/lang/Object;") (Aw : AL Z h0 w kw (.object "java/lang/Object") [(.ref d), (.ref d), (.ref d), .null, .null, .null, .null, .null, .null, .null]) (Ed : Exa Z h0 d "com/example/tranche/tranche/journal/DefaultRateChange") (hM : Mir Z "[Ljava/lang/Object;" mr) :
    Met1 l Z (⟨"java/util/Arrays", "copyOf", "([Ljava/lang/Object;I)[Ljava/lang/Object;"⟩ : MethodName) jdk_65_method_119_code 2 (some (.array (.object "java/lang/Object"))) ({ frames := 2, cells := 1, slots := 3, locals := 33 } : Room) #[(.ref w), (.int (3 : Int32))] h0 (Q_cp3 Z d w kw mr h0) := by
  refine Met1.of_body (Ls := #[.val (.ref w), .val (.int (3 : Int32))]) pf_25 (fun m => by first | (simp [entryFrame, mkF, argsToLocals, Value.category]; done) | rfl) ?_
  intro p e s m below meth c T0 C X0 e0
  have N0 : Fr Z.heap.size [] := Fr.nil _
  refine Go.aloadN (pc' := 1) C X0 d25_0 rfl rfl rfl ?_
  refine Go.iloadN (pc' := 2) C X0 d25_1 rfl rfl ?_
  refine Go.aloadN (pc' := 3) C X0 d25_2 rfl rfl rfl ?_
  refine Go.gcls (W := 2) (pc' := 6) C X0 (tw hw 179 rfl) (tw hw 180 rfl) (tw hw 98 rfl) (tw hw 182 rfl) (tw hw 181 rfl) (tw hw 183 rfl) e0 Ew hM rfl (by decide) (Nat.le_of_eq rfl) (by decide) d25_3 rfl ?_
  intro T101 X101 e101
  refine Go.callS (y := (⟨"java/util/Arrays", "copyOf", "([Ljava/lang/Object;ILjava/lang/Class;)[Ljava/lang/Object;"⟩ : MethodName)) (pc' := 9) C X101 (tw hw 185 rfl) (tw hw 186 rfl) (by decide) (rm_cpc3 l Z a0 hw d w kw mr h0 O0 Ew Aw Ed hM) (tw hw 187 rfl) (tw hw 177 rfl) e101 (argsL := [(.ref w), (.int (3 : Int32)), (.ref mr)]) (rest := []) (W := 0) rfl rfl pd_9 rfl (Nat.le_of_eq rfl) rfl (by decide) (by decide) (by decide) (by decide) d25_6 rfl ?_
  intro T102 v102 L102 X102 q102
  obtain ⟨v_102, kv_102, rfl, N102q, K102, B102_0, P102_0⟩ := q102
  have N102 := Fr.app N0 N102q
  have n_v_102 : Z.heap.size ≤ v_102 := Nat.le_trans O0.1 B102_0
  have z_v_102 : h0.size ≤ v_102 := Nat.le_trans (Nat.le_refl _) B102_0
  have K103 : Keep h0 T102.heap [] := ((Keep.refl h0 []).trans K102 all0)
  exact Go.retA C X102 rfl d25_9 rfl rfl rfl ⟨v_102, kv_102, rfl, N102, K103, z_v_102, P102_0⟩ (by decide) (by decide)
def Q_ta3 (Z : State) (r : Addr) (d : Addr) (w : Addr) (kw : ClassId) (mr : Addr) (h0 : Heap) (rv : Option Value) (h : Heap) (L : List Loc) : Prop := ∃ v : Addr, ∃ kv : ClassId, rv = some (.ref v) ∧ Fr Z.heap.size L ∧ Keep h0 h [] ∧ h0.size ≤ v ∧ AL Z h v kv (.object "java/lang/Object") [(.ref d), (.ref d), (.ref d)]
set_option maxRecDepth 65536 in
set_option maxHeartbeats 40000000 in
theorem rm_ta3 (l : Launch) (Z : State) (a0 : Array Value) (hw : ∀ d ∈ tables_1, d.before a0 Z = true) (r : Addr) (d : Addr) (w : Addr) (kw : ClassId) (mr : Addr) (h0 : Heap) (O0 : Ext Z.heap h0) (F2 : Fld Z h0 r "java/util/ArrayList" "elementData" "[Ljava/lang/Object;" (.ref w)) (F3 : Fld Z h0 r "java/util/ArrayList" "size" "I" (.int (3 : Int32))) (Ew : Exa Z h0 w "[Ljava/lang/Object;") (Aw : AL Z h0 w kw (.object "java/lang/Object") [(.ref d), (.ref d), (.ref d), .null, .null, .null, .null, .null, .null, .null]) (Ed : Exa Z h0 d "com/example/tranche/tranche/journal/DefaultRateChange") (hM : Mir Z "[Ljava/lang/Object;" mr) :
    Met1 l Z (⟨"java/util/ArrayList", "toArray", "()[Ljava/lang/Object;"⟩ : MethodName) jdk_38_method_16_code 1 (some (.array (.object "java/lang/Object"))) ({ frames := 3, cells := 1, slots := 3, locals := 46 } : Room) #[(.ref r)] h0 (Q_ta3 Z r d w kw mr h0) := by
  refine Met1.of_body (Ls := #[.val (.ref r)]) pf_24 (fun m => by first | (simp [entryFrame, mkF, argsToLocals, Value.category]; done) | rfl) ?_
  intro p e s m below meth c T0 C X0 e0
  have N0 : Fr Z.heap.size [] := Fr.nil _
  refine Go.aloadN (pc' := 1) C X0 d24_0 rfl rfl rfl ?_
  refine Go.getF (pc' := 4) (host := "") C X0 (Or.inl (tw hw 77 rfl)) Via.refl e0 F2 d24_1 rfl ?_
  intro T101 X101 e101
  refine Go.aloadN (pc' := 5) C X101 d24_4 rfl rfl rfl ?_
  refine Go.getF (pc' := 8) (host := "") C X101 (Or.inl (tw hw 109 rfl)) Via.refl e101 F3 d24_5 rfl ?_
  intro T102 X102 e102
  refine Go.callS (y := (⟨"java/util/Arrays", "copyOf", "([Ljava/lang/Object;I)[Ljava/lang/Object;"⟩ : MethodName)) (pc' := 11) C X102 (tw hw 175 rfl) (tw hw 176 rfl) (by decide) (rm_cp3 l Z a0 hw d w kw mr h0 O0 Ew Aw Ed hM) (tw hw 178 rfl) (tw hw 177 rfl) e102 (argsL := [(.ref w), (.int (3 : Int32))]) (rest := []) (W := 0) rfl rfl pd_10 rfl (Nat.le_of_eq rfl) rfl (by decide) (by decide) (by decide) (by decide) d24_8 rfl ?_
  intro T103 v103 L103 X103 q103
  obtain ⟨v_103, kv_103, rfl, N103q, K103, B103_0, P103_0⟩ := q103
  have N103 := Fr.app N0 N103q
  have n_v_103 : Z.heap.size ≤ v_103 := Nat.le_trans O0.1 B103_0
  have z_v_103 : h0.size ≤ v_103 := Nat.le_trans (Nat.le_refl _) B103_0
  have K104 : Keep h0 T103.heap [] := ((Keep.refl h0 []).trans K103 all0)
  exact Go.retA C X103 rfl d24_11 rfl rfl rfl ⟨v_103, kv_103, rfl, N103, K104, z_v_103, P103_0⟩ (by decide) (by decide)
theorem pd_13 : parseMethodDescriptor "([Ljava/lang/Object;Z)V" = some ⟨[(.array (.object "java/lang/Object")), .boolean], none⟩ := by decide +kernel
theorem pf_29 : plainFor (⟨"java/util/ImmutableCollections", "listFromArray", "([Ljava/lang/Object;)Ljava/util/List;"⟩ : MethodName) = true := plainFor_of_name (by first | (simp [plainName, overriddenIn]; done) | decide +kernel)
theorem d29_0 : decode jdk_56_method_4_code 0 = .ok (.aload_n 0, 1) := by decide +kernel
theorem d29_1 : decode jdk_56_method_4_code 1 = .ok (.arraylength, 1) := by decide +kernel
theorem d29_2 : decode jdk_56_method_4_code 2 = .ok (.anewarray 2, 3) := by decide +kernel
theorem d29_5 : decode jdk_56_method_4_code 5 = .ok (.astore_n 1, 1) := by decide +kernel
theorem d29_6 : decode jdk_56_method_4_code 6 = .ok (.iconst 0, 1) := by decide +kernel
theorem d29_7 : decode jdk_56_method_4_code 7 = .ok (.istore_n 2, 1) := by decide +kernel
theorem d29_8 : decode jdk_56_method_4_code 8 = .ok (.iload_n 2, 1) := by decide +kernel
theorem d29_9 : decode jdk_56_method_4_code 9 = .ok (.aload_n 0, 1) := by decide +kernel
theorem d29_10 : decode jdk_56_method_4_code 10 = .ok (.arraylength, 1) := by decide +kernel
theorem d29_11 : decode jdk_56_method_4_code 11 = .ok (.if_icmp .ge 18, 3) := by decide +kernel
theorem d29_14 : decode jdk_56_method_4_code 14 = .ok (.aload_n 1, 1) := by decide +kernel
theorem d29_15 : decode jdk_56_method_4_code 15 = .ok (.iload_n 2, 1) := by decide +kernel
theorem d29_16 : decode jdk_56_method_4_code 16 = .ok (.aload_n 0, 1) := by decide +kernel
theorem d29_17 : decode jdk_56_method_4_code 17 = .ok (.iload_n 2, 1) := by decide +kernel
theorem d29_18 : decode jdk_56_method_4_code 18 = .ok (.aaload, 1) := by decide +kernel
theorem d29_19 : decode jdk_56_method_4_code 19 = .ok (.invokestatic 37, 3) := by decide +kernel
theorem d29_22 : decode jdk_56_method_4_code 22 = .ok (.aastore, 1) := by decide +kernel
theorem d29_23 : decode jdk_56_method_4_code 23 = .ok (.iinc 2 1, 3) := by decide +kernel
theorem d29_26 : decode jdk_56_method_4_code 26 = .ok (.goto (-18), 3) := by decide +kernel
theorem d29_29 : decode jdk_56_method_4_code 29 = .ok (.new 12, 3) := by decide +kernel
theorem d29_32 : decode jdk_56_method_4_code 32 = .ok (.dup, 1) := by decide +kernel
theorem d29_33 : decode jdk_56_method_4_code 33 = .ok (.aload_n 1, 1) := by decide +kernel
theorem d29_34 : decode jdk_56_method_4_code 34 = .ok (.iconst 0, 1) := by decide +kernel
theorem d29_35 : decode jdk_56_method_4_code 35 = .ok (.invokespecial 43, 3) := by decide +kernel
theorem d29_38 : decode jdk_56_method_4_code 38 = .ok (.areturn, 1) := by decide +kernel
def Q_lfa3 (Z : State) (d : Addr) (v : Addr) (kv : ClassId) (h0 : Heap) (rv : Option Value) (h : Heap) (L : List Loc) : Prop := ∃ r : Addr, ∃ q : Addr, ∃ kq : ClassId, rv = some (.ref r) ∧ Fr Z.heap.size L ∧ Keep h0 h [] ∧ h0.size ≤ r ∧ h0.size ≤ q ∧ Exa Z h r "java/util/ImmutableCollections$ListN" ∧ Fld Z h r "java/util/ImmutableCollections$ListN" "elements" "[Ljava/lang/Object;" (.ref q) ∧ AL Z h q kq (.object "java/lang/Object") [(.ref d), (.ref d), (.ref d)]
set_option maxRecDepth 65536 in
set_option maxHeartbeats 40000000 in
theorem rm_lfa3 (l : Launch) (Z : State) (a0 : Array Value) (hw : ∀ d ∈ tables_1, d.before a0 Z = true) (d : Addr) (v : Addr) (kv : ClassId) (h0 : Heap) (O0 : Ext Z.heap h0) (Av : AL Z h0 v kv (.object "java/lang/Object") [(.ref d), (.ref d), (.ref d)]) (Ed : Exa Z h0 d "com/example/tranche/tranche/journal/DefaultRateChange") :
    Met1 l Z (⟨"java/util/ImmutableCollections", "listFromArray", "([Ljava/lang/Object;)Ljava/util/List;"⟩ : MethodName) jdk_56_method_4_code 3 (some (.object "java/util/List")) ({ frames := 5, cells := 2, slots := 5, locals := 63 } : Room) #[(.ref v)] h0 (Q_lfa3 Z d v kv h0) := by
  refine Met1.of_body (Ls := #[.val (.ref v), .unset, .unset]) pf_29 (fun m => by first | (simp [entryFrame, mkF, argsToLocals, Value.category]; done) | rfl) ?_
  intro p e s m below meth c T0 C X0 e0
  have N0 : Fr Z.heap.size [] := Fr.nil _
  refine Go.aloadN (pc' := 1) C X0 d29_0 rfl rfl rfl ?_
  refine Go.alen (z := (3 : Int32)) (pc' := 2) C X0 e0 Av rfl d29_1 rfl ?_
  refine Go.newR (cap := 3) (vs := [.null, .null, .null]) (ad := "[Ljava/lang/Object;") (pc' := 5) C X0 (by decide) (tw hw 203 rfl) (tw hw 148 rfl) e0 (by decide) (by decide) (by decide) (by decide) (by decide) rfl d29_2 rfl ?_
  intro T101 h101 b101 k101 X101 e101 g101 E101 A101 Ea101 O101v
  have n_b101 : Z.heap.size ≤ b101 := Nat.le_trans O0.1 (Nat.le_of_eq g101.symm)
  have z_b101 : h0.size ≤ b101 := Nat.le_trans (Nat.le_refl _) (Nat.le_of_eq g101.symm)
  have A101 : AL Z h101 b101 k101 (.object "java/lang/Object") [.null, .null, .null] := A101
  refine Go.astoreN (Ls' := #[.val (.ref v), .val (.ref b101), .unset]) (pc' := 6) C X101 d29_5 rfl rfl rfl ?_
  refine Go.iconst (z := (0 : Int32)) (pc' := 7) C X101 d29_6 rfl rfl ?_
  refine Go.istoreN (Ls' := #[.val (.ref v), .val (.ref b101), .val (.int (0 : Int32))]) (pc' := 8) C X101 d29_7 rfl rfl ?_
  refine Go.iloadN (pc' := 9) C X101 d29_8 rfl rfl ?_
  refine Go.aloadN (pc' := 10) C X101 d29_9 rfl rfl rfl ?_
  have c102 : AL Z h101 v kv (.object "java/lang/Object") [(.ref d), (.ref d), (.ref d)] := (AL.ext E101 Av)
  refine Go.alen (z := (3 : Int32)) (pc' := 11) C X101 e101 c102 rfl d29_10 rfl ?_
  refine Go.icmpNo (pc' := 14) C X101 d29_11 (tlt (x := (0 : Int32)) (y := (3 : Int32)) (by decide)).2.1 rfl ?_
  refine Go.aloadN (pc' := 15) C X101 d29_14 rfl rfl rfl ?_
  refine Go.iloadN (pc' := 16) C X101 d29_15 rfl rfl ?_
  refine Go.aloadN (pc' := 17) C X101 d29_16 rfl rfl rfl ?_
  refine Go.iloadN (pc' := 18) C X101 d29_17 rfl rfl ?_
  refine Go.ldR (i := 0) (v := (.ref d)) (pc' := 19) C X101 e101 c102 (by decide) (by decide) rfl rfl d29_18 rfl ?_
  have O105 : Ext Z.heap h101 := (Ext.trans O0 E101)
  refine Go.callS (y := (⟨"java/util/Objects", "requireNonNull", "(Ljava/lang/Object;)Ljava/lang/Object;"⟩ : MethodName)) (pc' := 22) C X101 (tw hw 204 rfl) (tw hw 205 rfl) (by decide) (rm_rn l Z a0 hw d h101 O105 ) (tw hw 207 rfl) (tw hw 206 rfl) e101 (argsL := [(.ref d)]) (rest := [(.int (0 : Int32)), (.ref b101)]) (W := 2) rfl rfl pd_8 rfl (Nat.le_of_eq rfl) rfl (by decide) (by decide) (by decide) (by decide) d29_19 rfl ?_
  intro T104 v104 L104 X104 q104
  obtain ⟨rfl, rfl, e104⟩ := q104
  have N104 := Fr.app N0 (Fr.nil _)
  have c107 : Exa Z h101 d "com/example/tranche/tranche/journal/DefaultRateChange" := (Exa.ext E101 Ed)
  refine Go.stR (i := 0) (vs' := [(.ref d), .null, .null]) (pc' := 23) C X104 e104 A101 (by decide) (by decide) (by simp) rfl (AL.sto A101 O101v (Ins.of_exa c107 (tw hw 149 rfl))) rfl d29_22 rfl ?_
  intro T106 h106 X106 e106 W106 A106
  have N106 := Fr.snoc X106 N104 n_b101
  refine Go.iinc (Ls' := #[.val (.ref v), .val (.ref b101), .val (.int ((0 : Int32) + (1 : Int32)))]) (z := (1 : Int32)) (pc' := 26) C X106 d29_23 rfl rfl rfl rfl ?_
  rw [show ((0 : Int32) + (1 : Int32)) = (1 : Int32) from by decide]
  refine Go.goto (pc' := 8) C X106 d29_26 (by decide) (by decide) ?_
  refine Go.iloadN (pc' := 9) C X106 d29_8 rfl rfl ?_
  refine Go.aloadN (pc' := 10) C X106 d29_9 rfl rfl rfl ?_
  have ne108 : v ≠ b101 := Nat.ne_of_lt (Nat.lt_of_lt_of_le Av.lt (Nat.le_trans (Nat.le_refl _) (Nat.le_of_eq g101.symm)))
  have c109 : AL Z h106 v kv (.object "java/lang/Object") [(.ref d), (.ref d), (.ref d)] := (AL.other W106 c102 ne108)
  refine Go.alen (z := (3 : Int32)) (pc' := 11) C X106 e106 c109 rfl d29_10 rfl ?_
  refine Go.icmpNo (pc' := 14) C X106 d29_11 (tlt (x := (1 : Int32)) (y := (3 : Int32)) (by decide)).2.1 rfl ?_
  refine Go.aloadN (pc' := 15) C X106 d29_14 rfl rfl rfl ?_
  refine Go.iloadN (pc' := 16) C X106 d29_15 rfl rfl ?_
  refine Go.aloadN (pc' := 17) C X106 d29_16 rfl rfl rfl ?_
  refine Go.iloadN (pc' := 18) C X106 d29_17 rfl rfl ?_
  refine Go.ldR (i := 1) (v := (.ref d)) (pc' := 19) C X106 e106 c109 (by decide) (by decide) rfl rfl d29_18 rfl ?_
  have O112 : Ext Z.heap h106 := (Ext.wr O105 W106 n_b101)
  refine Go.callS (y := (⟨"java/util/Objects", "requireNonNull", "(Ljava/lang/Object;)Ljava/lang/Object;"⟩ : MethodName)) (pc' := 22) C X106 (tw hw 204 rfl) (tw hw 205 rfl) (by decide) (rm_rn l Z a0 hw d h106 O112 ) (tw hw 207 rfl) (tw hw 206 rfl) e106 (argsL := [(.ref d)]) (rest := [(.int (1 : Int32)), (.ref b101)]) (W := 2) rfl rfl pd_8 rfl (Nat.le_of_eq rfl) rfl (by decide) (by decide) (by decide) (by decide) d29_19 rfl ?_
  intro T111 v111 L111 X111 q111
  obtain ⟨rfl, rfl, e111⟩ := q111
  have N111 := Fr.app N106 (Fr.nil _)
  have c114 : Exa Z h106 d "com/example/tranche/tranche/journal/DefaultRateChange" := (Exa.wr W106 c107)
  refine Go.stR (i := 1) (vs' := [(.ref d), (.ref d), .null]) (pc' := 23) C X111 e111 A106 (by decide) (by decide) (by simp) rfl (AL.sto A106 O101v (Ins.of_exa c114 (tw hw 149 rfl))) rfl d29_22 rfl ?_
  intro T113 h113 X113 e113 W113 A113
  have N113 := Fr.snoc X113 N111 n_b101
  refine Go.iinc (Ls' := #[.val (.ref v), .val (.ref b101), .val (.int ((1 : Int32) + (1 : Int32)))]) (z := (1 : Int32)) (pc' := 26) C X113 d29_23 rfl rfl rfl rfl ?_
  rw [show ((1 : Int32) + (1 : Int32)) = (2 : Int32) from by decide]
  refine Go.goto (pc' := 8) C X113 d29_26 (by decide) (by decide) ?_
  refine Go.iloadN (pc' := 9) C X113 d29_8 rfl rfl ?_
  refine Go.aloadN (pc' := 10) C X113 d29_9 rfl rfl rfl ?_
  have c115 : AL Z h113 v kv (.object "java/lang/Object") [(.ref d), (.ref d), (.ref d)] := (AL.other W113 c109 ne108)
  refine Go.alen (z := (3 : Int32)) (pc' := 11) C X113 e113 c115 rfl d29_10 rfl ?_
  refine Go.icmpNo (pc' := 14) C X113 d29_11 (tlt (x := (2 : Int32)) (y := (3 : Int32)) (by decide)).2.1 rfl ?_
  refine Go.aloadN (pc' := 15) C X113 d29_14 rfl rfl rfl ?_
  refine Go.iloadN (pc' := 16) C X113 d29_15 rfl rfl ?_
  refine Go.aloadN (pc' := 17) C X113 d29_16 rfl rfl rfl ?_
  refine Go.iloadN (pc' := 18) C X113 d29_17 rfl rfl ?_
  refine Go.ldR (i := 2) (v := (.ref d)) (pc' := 19) C X113 e113 c115 (by decide) (by decide) rfl rfl d29_18 rfl ?_
  have O118 : Ext Z.heap h113 := (Ext.wr O112 W113 n_b101)
  refine Go.callS (y := (⟨"java/util/Objects", "requireNonNull", "(Ljava/lang/Object;)Ljava/lang/Object;"⟩ : MethodName)) (pc' := 22) C X113 (tw hw 204 rfl) (tw hw 205 rfl) (by decide) (rm_rn l Z a0 hw d h113 O118 ) (tw hw 207 rfl) (tw hw 206 rfl) e113 (argsL := [(.ref d)]) (rest := [(.int (2 : Int32)), (.ref b101)]) (W := 2) rfl rfl pd_8 rfl (Nat.le_of_eq rfl) rfl (by decide) (by decide) (by decide) (by decide) d29_19 rfl ?_
  intro T117 v117 L117 X117 q117
  obtain ⟨rfl, rfl, e117⟩ := q117
  have N117 := Fr.app N113 (Fr.nil _)
  have c120 : Exa Z h113 d "com/example/tranche/tranche/journal/DefaultRateChange" := (Exa.wr W113 c114)
  refine Go.stR (i := 2) (vs' := [(.ref d), (.ref d), (.ref d)]) (pc' := 23) C X117 e117 A113 (by decide) (by decide) (by simp) rfl (AL.sto A113 O101v (Ins.of_exa c120 (tw hw 149 rfl))) rfl d29_22 rfl ?_
  intro T119 h119 X119 e119 W119 A119
  have N119 := Fr.snoc X119 N117 n_b101
  refine Go.iinc (Ls' := #[.val (.ref v), .val (.ref b101), .val (.int ((2 : Int32) + (1 : Int32)))]) (z := (1 : Int32)) (pc' := 26) C X119 d29_23 rfl rfl rfl rfl ?_
  rw [show ((2 : Int32) + (1 : Int32)) = (3 : Int32) from by decide]
  refine Go.goto (pc' := 8) C X119 d29_26 (by decide) (by decide) ?_
  refine Go.iloadN (pc' := 9) C X119 d29_8 rfl rfl ?_
  refine Go.aloadN (pc' := 10) C X119 d29_9 rfl rfl rfl ?_
  have c121 : AL Z h119 v kv (.object "java/lang/Object") [(.ref d), (.ref d), (.ref d)] := (AL.other W119 c115 ne108)
  refine Go.alen (z := (3 : Int32)) (pc' := 11) C X119 e119 c121 rfl d29_10 rfl ?_
  refine Go.icmpYes (pc' := 29) C X119 d29_11 (flt (x := (3 : Int32)) (y := (3 : Int32)) (by decide)).2.1 (by decide) (by decide) ?_
  have O124 : Ext Z.heap h119 := (Ext.wr O118 W119 n_b101)
  refine Go.newO (pc' := 32) C X119 (tw hw 99 rfl) (tw hw 208 rfl) (tw hw 163 rfl) e119 (by decide) (by decide) d29_29 rfl ?_
  intro T123 h123 b123 X123 e123 g123 E123 A123 D123
  have n_b123 : Z.heap.size ≤ b123 := Nat.le_trans O124.1 (Nat.le_of_eq g123.symm)
  have z_b123 : h0.size ≤ b123 := Nat.le_trans (Nat.le_trans (Nat.le_trans (Nat.le_trans (Nat.le_trans (Nat.le_refl _) E101.1) (Nat.le_of_eq W106.size.symm)) (Nat.le_of_eq W113.size.symm)) (Nat.le_of_eq W119.size.symm)) (Nat.le_of_eq g123.symm)
  have F123_elements : Fld Z h123 b123 "java/util/ImmutableCollections$ListN" "elements" "[Ljava/lang/Object;" .null := D123 (Or.inr (tw hw 166 rfl)) (ty := (.array (.object "java/lang/Object"))) (by decide)
  have F123_allowNulls : Fld Z h123 b123 "java/util/ImmutableCollections$ListN" "allowNulls" "Z" (.int (0 : Int32)) := D123 (Or.inr (tw hw 228 rfl)) (ty := .boolean) (by decide)
  refine Go.dup (pc' := 33) C X123 d29_32 rfl rfl ?_
  refine Go.aloadN (pc' := 34) C X123 d29_33 rfl rfl rfl ?_
  refine Go.iconst (z := (0 : Int32)) (pc' := 35) C X123 d29_34 rfl rfl ?_
  have O126 : Ext Z.heap h123 := (Ext.trans O124 E123)
  refine Go.callIN (y := (⟨"java/util/ImmutableCollections$ListN", "<init>", "([Ljava/lang/Object;Z)V"⟩ : MethodName)) (a := b123) (pc' := 38) C X123 rfl (tw hw 209 rfl) (tw hw 210 rfl) (by decide) (rm_lnI l Z a0 hw b123 b101 h123 O126 A123 F123_elements F123_allowNulls n_b123) (tw hw 212 rfl) (tw hw 163 rfl) e123 (argsL := [(.ref b101), (.int (0 : Int32))]) (rest := [(.ref b123)]) (W := 1) rfl rfl pd_13 rfl (Nat.le_of_eq rfl) rfl (by decide) (by decide) (by decide) (by decide) rfl d29_35 rfl ?_
  intro T125 v125 L125 X125 q125
  obtain ⟨rfl, N125q, K125, P125_0⟩ := q125
  have N125 := Fr.app N119 N125q
  have K127 : Keep h0 T125.heap [] := (((((((Keep.refl h0 []).ext E101).wr W106 (Or.inr z_b101)).wr W113 (Or.inr z_b101)).wr W119 (Or.inr z_b101)).ext E123).trans K125 (allS (Or.inr z_b123) all0))
  have c128 : Exa Z T125.heap b123 "java/util/ImmutableCollections$ListN" := (Exa.keep A123 K125)
  have ne129 : b101 ≠ b123 := Nat.ne_of_lt (Nat.lt_of_lt_of_le A101.lt (Nat.le_trans (Nat.le_trans (Nat.le_trans (Nat.le_trans (Nat.le_refl _) (Nat.le_of_eq W106.size.symm)) (Nat.le_of_eq W113.size.symm)) (Nat.le_of_eq W119.size.symm)) (Nat.le_of_eq g123.symm)))
  have c130 : AL Z T125.heap b101 k101 (.object "java/lang/Object") [(.ref d), (.ref d), (.ref d)] := (AL.keep (AL.ext E123 A119) K125 (ninS ne129 nin0))
  exact Go.retA C X125 rfl d29_38 rfl rfl rfl ⟨b123, b101, k101, rfl, N125, K127, z_b123, z_b101, c128, P125_0, c130⟩ (by decide) (by decide)
theorem pd_14 : parseMethodDescriptor "([Ljava/lang/Object;)Ljava/util/List;" = some ⟨[(.array (.object "java/lang/Object"))], some (.object "java/util/List")⟩ := by decide +kernel
theorem d28_59 : decode jdk_40_method_47_code 59 = .ok (.aload_n 0, 1) := by decide +kernel
theorem d28_60 : decode jdk_40_method_47_code 60 = .ok (.invokestatic 109, 3) := by decide +kernel
theorem d28_63 : decode jdk_40_method_47_code 63 = .ok (.areturn, 1) := by decide +kernel
def Q_lof3 (Z : State) (d : Addr) (v : Addr) (kv : ClassId) (h0 : Heap) (rv : Option Value) (h : Heap) (L : List Loc) : Prop := ∃ r : Addr, ∃ q : Addr, ∃ kq : ClassId, rv = some (.ref r) ∧ Fr Z.heap.size L ∧ Keep h0 h [] ∧ h0.size ≤ r ∧ h0.size ≤ q ∧ Exa Z h r "java/util/ImmutableCollections$ListN" ∧ Fld Z h r "java/util/ImmutableCollections$ListN" "elements" "[Ljava/lang/Object;" (.ref q) ∧ AL Z h q kq (.object "java/lang/Object") [(.ref d), (.ref d), (.ref d)]
set_option maxRecDepth 65536 in
set_option maxHeartbeats 40000000 in
theorem rm_lof3 (l : Launch) (Z : State) (a0 : Array Value) (hw : ∀ d ∈ tables_1, d.before a0 Z = true) (d : Addr) (v : Addr) (kv : ClassId) (h0 : Heap) (O0 : Ext Z.heap h0) (Av : AL Z h0 v kv (.object "java/lang/Object") [(.ref d), (.ref d), (.ref d)]) (Ed : Exa Z h0 d "com/example/tranche/tranche/journal/DefaultRateChange") :
    Met1 l Z (⟨"java/util/List", "of", "([Ljava/lang/Object;)Ljava/util/List;"⟩ : MethodName) jdk_40_method_47_code 2 (some (.object "java/util/List")) ({ frames := 6, cells := 2, slots := 5, locals := 77 } : Room) #[(.ref v)] h0 (Q_lof3 Z d v kv h0) := by
  refine Met1.of_body (Ls := #[.val (.ref v), .unset]) pf_28 (fun m => by first | (simp [entryFrame, mkF, argsToLocals, Value.category]; done) | rfl) ?_
  intro p e s m below meth c T0 C X0 e0
  have N0 : Fr Z.heap.size [] := Fr.nil _
  refine Go.aloadN (pc' := 1) C X0 d28_0 rfl rfl rfl ?_
  refine Go.alen (z := (3 : Int32)) (pc' := 2) C X0 e0 Av rfl d28_1 rfl ?_
  refine Go.tswOut (pc' := 59) C X0 d28_2 (by decide) (by decide) (by decide) ?_
  refine Go.aloadN (pc' := 60) C X0 d28_59 rfl rfl rfl ?_
  refine Go.callS (y := (⟨"java/util/ImmutableCollections", "listFromArray", "([Ljava/lang/Object;)Ljava/util/List;"⟩ : MethodName)) (pc' := 63) C X0 (tw hw 200 rfl) (tw hw 201 rfl) (by decide) (rm_lfa3 l Z a0 hw d v kv h0 O0 Av Ed) (tw hw 202 rfl) (tw hw 92 rfl) e0 (argsL := [(.ref v)]) (rest := []) (W := 0) rfl rfl pd_14 rfl (Nat.le_of_eq rfl) rfl (by decide) (by decide) (by decide) (by decide) d28_60 rfl ?_
  intro T101 v101 L101 X101 q101
  obtain ⟨r_101, q_101, kq_101, rfl, N101q, K101, B101_0, B101_1, P101_0, P101_1, P101_2⟩ := q101
  have N101 := Fr.app N0 N101q
  have n_r_101 : Z.heap.size ≤ r_101 := Nat.le_trans O0.1 B101_0
  have z_r_101 : h0.size ≤ r_101 := Nat.le_trans (Nat.le_refl _) B101_0
  have n_q_101 : Z.heap.size ≤ q_101 := Nat.le_trans O0.1 B101_1
  have z_q_101 : h0.size ≤ q_101 := Nat.le_trans (Nat.le_refl _) B101_1
  have K102 : Keep h0 T101.heap [] := ((Keep.refl h0 []).trans K101 all0)
  exact Go.retA C X101 rfl d28_63 rfl rfl rfl ⟨r_101, q_101, kq_101, rfl, N101, K102, z_r_101, z_q_101, P101_0, P101_1, P101_2⟩ (by decide) (by decide)
def Q_emp4 (Z : State) (r : Addr) (h0 : Heap) (rv : Option Value) (h : Heap) (L : List Loc) : Prop := rv = some (.int (0 : Int32)) ∧ L = [] ∧ h = h0
set_option maxRecDepth 65536 in
set_option maxHeartbeats 40000000 in
theorem rm_emp4 (l : Launch) (Z : State) (a0 : Array Value) (hw : ∀ d ∈ tables_1, d.before a0 Z = true) (r : Addr) (h0 : Heap) (O0 : Ext Z.heap h0) (F3 : Fld Z h0 r "java/util/ArrayList" "size" "I" (.int (4 : Int32))) :
    Met1 l Z (⟨"java/util/ArrayList", "isEmpty", "()Z"⟩ : MethodName) jdk_38_method_9_code 1 (some .boolean) ({ frames := 0, cells := 0, slots := 0, locals := 0 } : Room) #[(.ref r)] h0 (Q_emp4 Z r h0) := by
  refine Met1.of_body (Ls := #[.val (.ref r)]) pf_15 (fun m => by first | (simp [entryFrame, mkF, argsToLocals, Value.category]; done) | rfl) ?_
  intro p e s m below meth c T0 C X0 e0
  have N0 : Fr Z.heap.size [] := Fr.nil _
  refine Go.aloadN (pc' := 1) C X0 d15_0 rfl rfl rfl ?_
  refine Go.getF (pc' := 4) (host := "") C X0 (Or.inl (tw hw 109 rfl)) Via.refl e0 F3 d15_1 rfl ?_
  intro T101 X101 e101
  refine Go.ifYes (pc' := 11) C X101 d15_4 ((if0 _ _).trans (feq (x := (4 : Int32)) (y := (0 : Int32)) (by decide)).2) (by decide) (by decide) ?_
  refine Go.iconst (z := (0 : Int32)) (pc' := 12) C X101 d15_11 rfl rfl ?_
  exact Go.retN C X101 rfl d15_12 (by simp) (by rw [e101]; exact ⟨rfl, rfl, rfl⟩) (by decide) (by decide)
def Q_mn4 (Z : State)  (h0 : Heap) (rv : Option Value) (h : Heap) (L : List Loc) : Prop := rv = some (.int (4 : Int32)) ∧ L = [] ∧ h = h0
set_option maxRecDepth 65536 in
set_option maxHeartbeats 40000000 in
theorem rm_mn4 (l : Launch) (Z : State) (a0 : Array Value) (hw : ∀ d ∈ tables_1, d.before a0 Z = true)  (h0 : Heap) (O0 : Ext Z.heap h0) :
    Met1 l Z (⟨"java/lang/Math", "min", "(II)I"⟩ : MethodName) jdk_29_method_69_code 2 (some .int) ({ frames := 0, cells := 0, slots := 0, locals := 0 } : Room) #[(.int (10 : Int32)), (.int (4 : Int32))] h0 (Q_mn4 Z  h0) := by
  refine Met1.of_body (Ls := #[.val (.int (10 : Int32)), .val (.int (4 : Int32))]) pf_27 (fun m => by first | (simp [entryFrame, mkF, argsToLocals, Value.category]; done) | rfl) ?_
  intro p e s m below meth c T0 C X0 e0
  have N0 : Fr Z.heap.size [] := Fr.nil _
  refine Go.iloadN (pc' := 1) C X0 d27_0 rfl rfl ?_
  refine Go.iloadN (pc' := 2) C X0 d27_1 rfl rfl ?_
  refine Go.icmpYes (pc' := 9) C X0 d27_2 (tlt (x := (4 : Int32)) (y := (10 : Int32)) (by decide)).2.2.1 (by decide) (by decide) ?_
  refine Go.iloadN (pc' := 10) C X0 d27_9 rfl rfl ?_
  exact Go.retI C X0 rfl d27_10 (by rw [e0]; exact ⟨rfl, rfl, rfl⟩) (by decide) (by decide)
def Q_cpc4 (Z : State) (d : Addr) (w : Addr) (kw : ClassId) (mr : Addr) (h0 : Heap) (rv : Option Value) (h : Heap) (L : List Loc) : Prop := ∃ v : Addr, ∃ kv : ClassId, rv = some (.ref v) ∧ Fr Z.heap.size L ∧ Keep h0 h [] ∧ h0.size ≤ v ∧ AL Z h v kv (.object "java/lang/Object") [(.ref d), (.ref d), (.ref d), (.ref d)]
set_option maxRecDepth 65536 in
set_option maxHeartbeats 40000000 in
theorem rm_cpc4 (l : Launch) (Z : State) (a0 : Array Value) (hw : ∀ d ∈ tables_1, d.before a0 Z = true) (d : Addr) (w : Addr) (kw : ClassId) (mr : Addr) (h0 : Heap) (O0 : Ext Z.heap h0) (Ew : Exa Z h0 w "[Ljava/lang/Object;") (Aw : AL Z h0 w kw (.object "java/lang/Object") [(.ref d), (.ref d), (.ref d), (.ref d), .null, .null, .null, .null, .null, .null]) (Ed : Exa Z h0 d "com/example/tranche/tranche/journal/DefaultRateChange") (hM : Mir Z "[Ljava/lang/Object;" mr) :
    Met1 l Z (⟨"java/util/Arrays", "copyOf", "([Ljava/lang/Object;ILjava/lang/Class;)[Ljava/lang/Object;"⟩ : MethodName) jdk_65_method_120_code 4 (some (.array (.object "java/lang/Object"))) ({ frames := 1, cells := 1, slots := 4, locals := 18 } : Room) #[(.ref w), (.int (4 : Int32)), (.ref mr)] h0 (Q_cpc4 Z d w kw mr h0) := by
  refine Met1.of_body (Ls := #[.val (.ref w), .val (.int (4 : Int32)), .val (.ref mr), .unset]) pf_26 (fun m => by first | (simp [entryFrame, mkF, argsToLocals, Value.category]; done) | rfl) ?_
  intro p e s m below meth c T0 C X0 e0
  have N0 : Fr Z.heap.size [] := Fr.nil _
  refine Go.aloadN (pc' := 1) C X0 d26_0 rfl rfl rfl ?_
  refine Go.ldcM (pc' := 3) C X0 (tw hw 188 rfl) e0 hM d26_1 rfl ?_
  intro T101 X101 e101
  refine Go.acmpNo (pc' := 6) C X101 d26_3 rfl rfl (XT.aa_ne_f rfl) rfl ?_
  refine Go.iloadN (pc' := 7) C X101 d26_6 rfl rfl ?_
  refine Go.newR (cap := 4) (vs := [.null, .null, .null, .null]) (ad := "[Ljava/lang/Object;") (pc' := 10) C X101 (by decide) (tw hw 189 rfl) (tw hw 148 rfl) e101 (by decide) (by decide) (by decide) (by decide) (by decide) rfl d26_7 rfl ?_
  intro T102 h102 b102 k102 X102 e102 g102 E102 A102 Ea102 O102v
  have n_b102 : Z.heap.size ≤ b102 := Nat.le_trans O0.1 (Nat.le_of_eq g102.symm)
  have z_b102 : h0.size ≤ b102 := Nat.le_trans (Nat.le_refl _) (Nat.le_of_eq g102.symm)
  have A102 : AL Z h102 b102 k102 (.object "java/lang/Object") [.null, .null, .null, .null] := A102
  refine Go.goto (pc' := 24) C X102 d26_10 (by decide) (by decide) ?_
  refine Go.astoreN (Ls' := #[.val (.ref w), .val (.int (4 : Int32)), .val (.ref mr), .val (.ref b102)]) (pc' := 25) C X102 d26_24 rfl rfl rfl ?_
  refine Go.aloadN (pc' := 26) C X102 d26_25 rfl rfl rfl ?_
  refine Go.iconst (z := (0 : Int32)) (pc' := 27) C X102 d26_26 rfl rfl ?_
  refine Go.aloadN (pc' := 28) C X102 d26_27 rfl rfl rfl ?_
  refine Go.iconst (z := (0 : Int32)) (pc' := 29) C X102 d26_28 rfl rfl ?_
  refine Go.aloadN (pc' := 30) C X102 d26_29 rfl rfl rfl ?_
  have c103 : AL Z h102 w kw (.object "java/lang/Object") [(.ref d), (.ref d), (.ref d), (.ref d), .null, .null, .null, .null, .null, .null] := (AL.ext E102 Aw)
  refine Go.alen (z := (10 : Int32)) (pc' := 31) C X102 e102 c103 rfl d26_30 rfl ?_
  refine Go.iloadN (pc' := 32) C X102 d26_31 rfl rfl ?_
  have O105 : Ext Z.heap h102 := (Ext.trans O0 E102)
  refine Go.callS (y := (⟨"java/lang/Math", "min", "(II)I"⟩ : MethodName)) (pc' := 35) C X102 (tw hw 190 rfl) (tw hw 191 rfl) (by decide) (rm_mn4 l Z a0 hw  h102 O105 ) (tw hw 192 rfl) (tw hw 145 rfl) e102 (argsL := [(.int (10 : Int32)), (.int (4 : Int32))]) (rest := [(.int (0 : Int32)), (.ref b102), (.int (0 : Int32)), (.ref w)]) (W := 4) rfl rfl pd_4 rfl (Nat.le_of_eq rfl) rfl (by decide) (by decide) (by decide) (by decide) d26_32 rfl ?_
  intro T104 v104 L104 X104 q104
  obtain ⟨rfl, rfl, e104⟩ := q104
  have N104 := Fr.app N0 (Fr.nil _)
  have c107 : Exa Z h102 d "com/example/tranche/tranche/journal/DefaultRateChange" := (Exa.ext E102 Ed)
  refine Go.arrcopy (i := 0) (j := 0) (n := 4) (vd' := [(.ref d), (.ref d), (.ref d), (.ref d)]) (W := 0) (n0 := Z.heap.size) (pc' := 38) C X104 (tw hw 193 rfl) (tw hw 196 rfl) (tw hw 194 rfl) (tw hw 195 rfl) e104 c103 A102 (by simp [fits]) (by simp [fits]) (by simp) (by simp) (Or.inr ⟨rfl, rfl, ⟨(AL.sto A102 O102v (Ins.of_exa c107 (tw hw 149 rfl))), ⟨(AL.sto A102 O102v (Ins.of_exa c107 (tw hw 149 rfl))), ⟨(AL.sto A102 O102v (Ins.of_exa c107 (tw hw 149 rfl))), ⟨(AL.sto A102 O102v (Ins.of_exa c107 (tw hw 149 rfl))), trivial⟩⟩⟩⟩⟩) (by decide) (by decide) (by decide) (by decide) (by decide) (by decide) (by simp) (by simp) rfl N104 n_b102 rfl (by decide) (Nat.le_of_eq rfl) (by decide) d26_35 rfl ?_
  intro T106 h106 L106 X106 e106 N106 K106 A106
  refine Go.aloadN (pc' := 39) C X106 d26_38 rfl rfl rfl ?_
  have K108 : Keep h0 h106 [] := (((Keep.refl h0 []).ext E102).trans K106 (allS (Or.inr z_b102) all0))
  exact Go.retA C X106 rfl d26_39 rfl rfl rfl (by rw [e106]; exact ⟨b102, k102, rfl, N106, K108, z_b102, A106⟩) (by decide) (by decide)
def Q_cp4 (Z : State) (d : Addr) (w : Addr) (kw : ClassId) (mr : Addr) (h0 : Heap) (rv : Option Value) (h : Heap) (L : List Loc) : Prop := ∃ v : Addr, ∃ kv : ClassId, rv = some (.ref v) ∧ Fr Z.heap.size L ∧ Keep h0 h [] ∧ h0.size ≤ v ∧ AL Z h v kv (.object "java/lang/Object") [(.ref d), (.ref d), (.ref d), (.ref d)]
set_option maxRecDepth 65536 in
set_option maxHeartbeats 40000000 in
theorem rm_cp4 (l : Launch) (Z : State) (a0 : Array Value) (hw : ∀ d ∈ tables_1, d.before a0 Z = true) (d : Addr) (w : Addr) (kw : ClassId) (mr : Addr) (h0 : Heap) (O0 : Ext Z.heap h0) (Ew : Exa Z h0 w "[Ljava/lang/Object;") (Aw : AL Z h0 w kw (.object "java/lang/Object") [(.ref d), (.ref d), (.ref d), (.ref d), .null, .null, .null, .null, .null, .null]) (Ed : Exa Z h0 d "com/example/tranche/tranche/journal/DefaultRateChange") (hM : Mir Z "[Ljava/lang/Object;" mr) :
    Met1 l Z (⟨"java/util/Arrays", "copyOf", "([Ljava/lang/Object;I)[Ljava/lang/Object;"⟩ : MethodName) jdk_65_method_119_code 2 (some (.array (.object "java/lang/Object"))) ({ frames := 2, cells := 1, slots := 4, locals := 33 } : Room) #[(.ref w), (.int (4 : Int32))] h0 (Q_cp4 Z d w kw mr h0) := by
  refine Met1.of_body (Ls := #[.val (.ref w), .val (.int (4 : Int32))]) pf_25 (fun m => by first | (simp [entryFrame, mkF, argsToLocals, Value.category]; done) | rfl) ?_
  intro p e s m below meth c T0 C X0 e0
  have N0 : Fr Z.heap.size [] := Fr.nil _
  refine Go.aloadN (pc' := 1) C X0 d25_0 rfl rfl rfl ?_
  refine Go.iloadN (pc' := 2) C X0 d25_1 rfl rfl ?_
  refine Go.aloadN (pc' := 3) C X0 d25_2 rfl rfl rfl ?_
  refine Go.gcls (W := 2) (pc' := 6) C X0 (tw hw 179 rfl) (tw hw 180 rfl) (tw hw 98 rfl) (tw hw 182 rfl) (tw hw 181 rfl) (tw hw 183 rfl) e0 Ew hM rfl (by decide) (Nat.le_of_eq rfl) (by decide) d25_3 rfl ?_
  intro T101 X101 e101
  refine Go.callS (y := (⟨"java/util/Arrays", "copyOf", "([Ljava/lang/Object;ILjava/lang/Class;)[Ljava/lang/Object;"⟩ : MethodName)) (pc' := 9) C X101 (tw hw 185 rfl) (tw hw 186 rfl) (by decide) (rm_cpc4 l Z a0 hw d w kw mr h0 O0 Ew Aw Ed hM) (tw hw 187 rfl) (tw hw 177 rfl) e101 (argsL := [(.ref w), (.int (4 : Int32)), (.ref mr)]) (rest := []) (W := 0) rfl rfl pd_9 rfl (Nat.le_of_eq rfl) rfl (by decide) (by decide) (by decide) (by decide) d25_6 rfl ?_
  intro T102 v102 L102 X102 q102
  obtain ⟨v_102, kv_102, rfl, N102q, K102, B102_0, P102_0⟩ := q102
  have N102 := Fr.app N0 N102q
  have n_v_102 : Z.heap.size ≤ v_102 := Nat.le_trans O0.1 B102_0
  have z_v_102 : h0.size ≤ v_102 := Nat.le_trans (Nat.le_refl _) B102_0
  have K103 : Keep h0 T102.heap [] := ((Keep.refl h0 []).trans K102 all0)
  exact Go.retA C X102 rfl d25_9 rfl rfl rfl ⟨v_102, kv_102, rfl, N102, K103, z_v_102, P102_0⟩ (by decide) (by decide)
def Q_ta4 (Z : State) (r : Addr) (d : Addr) (w : Addr) (kw : ClassId) (mr : Addr) (h0 : Heap) (rv : Option Value) (h : Heap) (L : List Loc) : Prop := ∃ v : Addr, ∃ kv : ClassId, rv = some (.ref v) ∧ Fr Z.heap.size L ∧ Keep h0 h [] ∧ h0.size ≤ v ∧ AL Z h v kv (.object "java/lang/Object") [(.ref d), (.ref d), (.ref d), (.ref d)]
set_option maxRecDepth 65536 in
set_option maxHeartbeats 40000000 in
theorem rm_ta4 (l : Launch) (Z : State) (a0 : Array Value) (hw : ∀ d ∈ tables_1, d.before a0 Z = true) (r : Addr) (d : Addr) (w : Addr) (kw : ClassId) (mr : Addr) (h0 : Heap) (O0 : Ext Z.heap h0) (F2 : Fld Z h0 r "java/util/ArrayList" "elementData" "[Ljava/lang/Object;" (.ref w)) (F3 : Fld Z h0 r "java/util/ArrayList" "size" "I" (.int (4 : Int32))) (Ew : Exa Z h0 w "[Ljava/lang/Object;") (Aw : AL Z h0 w kw (.object "java/lang/Object") [(.ref d), (.ref d), (.ref d), (.ref d), .null, .null, .null, .null, .null, .null]) (Ed : Exa Z h0 d "com/example/tranche/tranche/journal/DefaultRateChange") (hM : Mir Z "[Ljava/lang/Object;" mr) :
    Met1 l Z (⟨"java/util/ArrayList", "toArray", "()[Ljava/lang/Object;"⟩ : MethodName) jdk_38_method_16_code 1 (some (.array (.object "java/lang/Object"))) ({ frames := 3, cells := 1, slots := 4, locals := 46 } : Room) #[(.ref r)] h0 (Q_ta4 Z r d w kw mr h0) := by
  refine Met1.of_body (Ls := #[.val (.ref r)]) pf_24 (fun m => by first | (simp [entryFrame, mkF, argsToLocals, Value.category]; done) | rfl) ?_
  intro p e s m below meth c T0 C X0 e0
  have N0 : Fr Z.heap.size [] := Fr.nil _
  refine Go.aloadN (pc' := 1) C X0 d24_0 rfl rfl rfl ?_
  refine Go.getF (pc' := 4) (host := "") C X0 (Or.inl (tw hw 77 rfl)) Via.refl e0 F2 d24_1 rfl ?_
  intro T101 X101 e101
  refine Go.aloadN (pc' := 5) C X101 d24_4 rfl rfl rfl ?_
  refine Go.getF (pc' := 8) (host := "") C X101 (Or.inl (tw hw 109 rfl)) Via.refl e101 F3 d24_5 rfl ?_
  intro T102 X102 e102
  refine Go.callS (y := (⟨"java/util/Arrays", "copyOf", "([Ljava/lang/Object;I)[Ljava/lang/Object;"⟩ : MethodName)) (pc' := 11) C X102 (tw hw 175 rfl) (tw hw 176 rfl) (by decide) (rm_cp4 l Z a0 hw d w kw mr h0 O0 Ew Aw Ed hM) (tw hw 178 rfl) (tw hw 177 rfl) e102 (argsL := [(.ref w), (.int (4 : Int32))]) (rest := []) (W := 0) rfl rfl pd_10 rfl (Nat.le_of_eq rfl) rfl (by decide) (by decide) (by decide) (by decide) d24_8 rfl ?_
  intro T103 v103 L103 X103 q103
  obtain ⟨v_103, kv_103, rfl, N103q, K103, B103_0, P103_0⟩ := q103
  have N103 := Fr.app N0 N103q
  have n_v_103 : Z.heap.size ≤ v_103 := Nat.le_trans O0.1 B103_0
  have z_v_103 : h0.size ≤ v_103 := Nat.le_trans (Nat.le_refl _) B103_0
  have K104 : Keep h0 T103.heap [] := ((Keep.refl h0 []).trans K103 all0)
  exact Go.retA C X103 rfl d24_11 rfl rfl rfl ⟨v_103, kv_103, rfl, N103, K104, z_v_103, P103_0⟩ (by decide) (by decide)
def Q_lfa4 (Z : State) (d : Addr) (v : Addr) (kv : ClassId) (h0 : Heap) (rv : Option Value) (h : Heap) (L : List Loc) : Prop := ∃ r : Addr, ∃ q : Addr, ∃ kq : ClassId, rv = some (.ref r) ∧ Fr Z.heap.size L ∧ Keep h0 h [] ∧ h0.size ≤ r ∧ h0.size ≤ q ∧ Exa Z h r "java/util/ImmutableCollections$ListN" ∧ Fld Z h r "java/util/ImmutableCollections$ListN" "elements" "[Ljava/lang/Object;" (.ref q) ∧ AL Z h q kq (.object "java/lang/Object") [(.ref d), (.ref d), (.ref d), (.ref d)]
set_option maxRecDepth 65536 in
set_option maxHeartbeats 40000000 in
theorem rm_lfa4 (l : Launch) (Z : State) (a0 : Array Value) (hw : ∀ d ∈ tables_1, d.before a0 Z = true) (d : Addr) (v : Addr) (kv : ClassId) (h0 : Heap) (O0 : Ext Z.heap h0) (Av : AL Z h0 v kv (.object "java/lang/Object") [(.ref d), (.ref d), (.ref d), (.ref d)]) (Ed : Exa Z h0 d "com/example/tranche/tranche/journal/DefaultRateChange") :
    Met1 l Z (⟨"java/util/ImmutableCollections", "listFromArray", "([Ljava/lang/Object;)Ljava/util/List;"⟩ : MethodName) jdk_56_method_4_code 3 (some (.object "java/util/List")) ({ frames := 5, cells := 2, slots := 6, locals := 63 } : Room) #[(.ref v)] h0 (Q_lfa4 Z d v kv h0) := by
  refine Met1.of_body (Ls := #[.val (.ref v), .unset, .unset]) pf_29 (fun m => by first | (simp [entryFrame, mkF, argsToLocals, Value.category]; done) | rfl) ?_
  intro p e s m below meth c T0 C X0 e0
  have N0 : Fr Z.heap.size [] := Fr.nil _
  refine Go.aloadN (pc' := 1) C X0 d29_0 rfl rfl rfl ?_
  refine Go.alen (z := (4 : Int32)) (pc' := 2) C X0 e0 Av rfl d29_1 rfl ?_
  refine Go.newR (cap := 4) (vs := [.null, .null, .null, .null]) (ad := "[Ljava/lang/Object;") (pc' := 5) C X0 (by decide) (tw hw 203 rfl) (tw hw 148 rfl) e0 (by decide) (by decide) (by decide) (by decide) (by decide) rfl d29_2 rfl ?_
  intro T101 h101 b101 k101 X101 e101 g101 E101 A101 Ea101 O101v
  have n_b101 : Z.heap.size ≤ b101 := Nat.le_trans O0.1 (Nat.le_of_eq g101.symm)
  have z_b101 : h0.size ≤ b101 := Nat.le_trans (Nat.le_refl _) (Nat.le_of_eq g101.symm)
  have A101 : AL Z h101 b101 k101 (.object "java/lang/Object") [.null, .null, .null, .null] := A101
  refine Go.astoreN (Ls' := #[.val (.ref v), .val (.ref b101), .unset]) (pc' := 6) C X101 d29_5 rfl rfl rfl ?_
  refine Go.iconst (z := (0 : Int32)) (pc' := 7) C X101 d29_6 rfl rfl ?_
  refine Go.istoreN (Ls' := #[.val (.ref v), .val (.ref b101), .val (.int (0 : Int32))]) (pc' := 8) C X101 d29_7 rfl rfl ?_
  refine Go.iloadN (pc' := 9) C X101 d29_8 rfl rfl ?_
  refine Go.aloadN (pc' := 10) C X101 d29_9 rfl rfl rfl ?_
  have c102 : AL Z h101 v kv (.object "java/lang/Object") [(.ref d), (.ref d), (.ref d), (.ref d)] := (AL.ext E101 Av)
  refine Go.alen (z := (4 : Int32)) (pc' := 11) C X101 e101 c102 rfl d29_10 rfl ?_
  refine Go.icmpNo (pc' := 14) C X101 d29_11 (tlt (x := (0 : Int32)) (y := (4 : Int32)) (by decide)).2.1 rfl ?_
  refine Go.aloadN (pc' := 15) C X101 d29_14 rfl rfl rfl ?_
  refine Go.iloadN (pc' := 16) C X101 d29_15 rfl rfl ?_
  refine Go.aloadN (pc' := 17) C X101 d29_16 rfl rfl rfl ?_
  refine Go.iloadN (pc' := 18) C X101 d29_17 rfl rfl ?_
  refine Go.ldR (i := 0) (v := (.ref d)) (pc' := 19) C X101 e101 c102 (by decide) (by decide) rfl rfl d29_18 rfl ?_
  have O105 : Ext Z.heap h101 := (Ext.trans O0 E101)
  refine Go.callS (y := (⟨"java/util/Objects", "requireNonNull", "(Ljava/lang/Object;)Ljava/lang/Object;"⟩ : MethodName)) (pc' := 22) C X101 (tw hw 204 rfl) (tw hw 205 rfl) (by decide) (rm_rn l Z a0 hw d h101 O105 ) (tw hw 207 rfl) (tw hw 206 rfl) e101 (argsL := [(.ref d)]) (rest := [(.int (0 : Int32)), (.ref b101)]) (W := 2) rfl rfl pd_8 rfl (Nat.le_of_eq rfl) rfl (by decide) (by decide) (by decide) (by decide) d29_19 rfl ?_
  intro T104 v104 L104 X104 q104
  obtain ⟨rfl, rfl, e104⟩ := q104
  have N104 := Fr.app N0 (Fr.nil _)
  have c107 : Exa Z h101 d "com/example/tranche/tranche/journal/DefaultRateChange" := (Exa.ext E101 Ed)
  refine Go.stR (i := 0) (vs' := [(.ref d), .null, .null, .null]) (pc' := 23) C X104 e104 A101 (by decide) (by decide) (by simp) rfl (AL.sto A101 O101v (Ins.of_exa c107 (tw hw 149 rfl))) rfl d29_22 rfl ?_
  intro T106 h106 X106 e106 W106 A106
  have N106 := Fr.snoc X106 N104 n_b101
  refine Go.iinc (Ls' := #[.val (.ref v), .val (.ref b101), .val (.int ((0 : Int32) + (1 : Int32)))]) (z := (1 : Int32)) (pc' := 26) C X106 d29_23 rfl rfl rfl rfl ?_
  rw [show ((0 : Int32) + (1 : Int32)) = (1 : Int32) from by decide]
  refine Go.goto (pc' := 8) C X106 d29_26 (by decide) (by decide) ?_
  refine Go.iloadN (pc' := 9) C X106 d29_8 rfl rfl ?_
  refine Go.aloadN (pc' := 10) C X106 d29_9 rfl rfl rfl ?_
  have ne108 : v ≠ b101 := Nat.ne_of_lt (Nat.lt_of_lt_of_le Av.lt (Nat.le_trans (Nat.le_refl _) (Nat.le_of_eq g101.symm)))
  have c109 : AL Z h106 v kv (.object "java/lang/Object") [(.ref d), (.ref d), (.ref d), (.ref d)] := (AL.other W106 c102 ne108)
  refine Go.alen (z := (4 : Int32)) (pc' := 11) C X106 e106 c109 rfl d29_10 rfl ?_
  refine Go.icmpNo (pc' := 14) C X106 d29_11 (tlt (x := (1 : Int32)) (y := (4 : Int32)) (by decide)).2.1 rfl ?_
  refine Go.aloadN (pc' := 15) C X106 d29_14 rfl rfl rfl ?_
  refine Go.iloadN (pc' := 16) C X106 d29_15 rfl rfl ?_
  refine Go.aloadN (pc' := 17) C X106 d29_16 rfl rfl rfl ?_
  refine Go.iloadN (pc' := 18) C X106 d29_17 rfl rfl ?_
  refine Go.ldR (i := 1) (v := (.ref d)) (pc' := 19) C X106 e106 c109 (by decide) (by decide) rfl rfl d29_18 rfl ?_
  have O112 : Ext Z.heap h106 := (Ext.wr O105 W106 n_b101)
  refine Go.callS (y := (⟨"java/util/Objects", "requireNonNull", "(Ljava/lang/Object;)Ljava/lang/Object;"⟩ : MethodName)) (pc' := 22) C X106 (tw hw 204 rfl) (tw hw 205 rfl) (by decide) (rm_rn l Z a0 hw d h106 O112 ) (tw hw 207 rfl) (tw hw 206 rfl) e106 (argsL := [(.ref d)]) (rest := [(.int (1 : Int32)), (.ref b101)]) (W := 2) rfl rfl pd_8 rfl (Nat.le_of_eq rfl) rfl (by decide) (by decide) (by decide) (by decide) d29_19 rfl ?_
  intro T111 v111 L111 X111 q111
  obtain ⟨rfl, rfl, e111⟩ := q111
  have N111 := Fr.app N106 (Fr.nil _)
  have c114 : Exa Z h106 d "com/example/tranche/tranche/journal/DefaultRateChange" := (Exa.wr W106 c107)
  refine Go.stR (i := 1) (vs' := [(.ref d), (.ref d), .null, .null]) (pc' := 23) C X111 e111 A106 (by decide) (by decide) (by simp) rfl (AL.sto A106 O101v (Ins.of_exa c114 (tw hw 149 rfl))) rfl d29_22 rfl ?_
  intro T113 h113 X113 e113 W113 A113
  have N113 := Fr.snoc X113 N111 n_b101
  refine Go.iinc (Ls' := #[.val (.ref v), .val (.ref b101), .val (.int ((1 : Int32) + (1 : Int32)))]) (z := (1 : Int32)) (pc' := 26) C X113 d29_23 rfl rfl rfl rfl ?_
  rw [show ((1 : Int32) + (1 : Int32)) = (2 : Int32) from by decide]
  refine Go.goto (pc' := 8) C X113 d29_26 (by decide) (by decide) ?_
  refine Go.iloadN (pc' := 9) C X113 d29_8 rfl rfl ?_
  refine Go.aloadN (pc' := 10) C X113 d29_9 rfl rfl rfl ?_
  have c115 : AL Z h113 v kv (.object "java/lang/Object") [(.ref d), (.ref d), (.ref d), (.ref d)] := (AL.other W113 c109 ne108)
  refine Go.alen (z := (4 : Int32)) (pc' := 11) C X113 e113 c115 rfl d29_10 rfl ?_
  refine Go.icmpNo (pc' := 14) C X113 d29_11 (tlt (x := (2 : Int32)) (y := (4 : Int32)) (by decide)).2.1 rfl ?_
  refine Go.aloadN (pc' := 15) C X113 d29_14 rfl rfl rfl ?_
  refine Go.iloadN (pc' := 16) C X113 d29_15 rfl rfl ?_
  refine Go.aloadN (pc' := 17) C X113 d29_16 rfl rfl rfl ?_
  refine Go.iloadN (pc' := 18) C X113 d29_17 rfl rfl ?_
  refine Go.ldR (i := 2) (v := (.ref d)) (pc' := 19) C X113 e113 c115 (by decide) (by decide) rfl rfl d29_18 rfl ?_
  have O118 : Ext Z.heap h113 := (Ext.wr O112 W113 n_b101)
  refine Go.callS (y := (⟨"java/util/Objects", "requireNonNull", "(Ljava/lang/Object;)Ljava/lang/Object;"⟩ : MethodName)) (pc' := 22) C X113 (tw hw 204 rfl) (tw hw 205 rfl) (by decide) (rm_rn l Z a0 hw d h113 O118 ) (tw hw 207 rfl) (tw hw 206 rfl) e113 (argsL := [(.ref d)]) (rest := [(.int (2 : Int32)), (.ref b101)]) (W := 2) rfl rfl pd_8 rfl (Nat.le_of_eq rfl) rfl (by decide) (by decide) (by decide) (by decide) d29_19 rfl ?_
  intro T117 v117 L117 X117 q117
  obtain ⟨rfl, rfl, e117⟩ := q117
  have N117 := Fr.app N113 (Fr.nil _)
  have c120 : Exa Z h113 d "com/example/tranche/tranche/journal/DefaultRateChange" := (Exa.wr W113 c114)
  refine Go.stR (i := 2) (vs' := [(.ref d), (.ref d), (.ref d), .null]) (pc' := 23) C X117 e117 A113 (by decide) (by decide) (by simp) rfl (AL.sto A113 O101v (Ins.of_exa c120 (tw hw 149 rfl))) rfl d29_22 rfl ?_
  intro T119 h119 X119 e119 W119 A119
  have N119 := Fr.snoc X119 N117 n_b101
  refine Go.iinc (Ls' := #[.val (.ref v), .val (.ref b101), .val (.int ((2 : Int32) + (1 : Int32)))]) (z := (1 : Int32)) (pc' := 26) C X119 d29_23 rfl rfl rfl rfl ?_
  rw [show ((2 : Int32) + (1 : Int32)) = (3 : Int32) from by decide]
  refine Go.goto (pc' := 8) C X119 d29_26 (by decide) (by decide) ?_
  refine Go.iloadN (pc' := 9) C X119 d29_8 rfl rfl ?_
  refine Go.aloadN (pc' := 10) C X119 d29_9 rfl rfl rfl ?_
  have c121 : AL Z h119 v kv (.object "java/lang/Object") [(.ref d), (.ref d), (.ref d), (.ref d)] := (AL.other W119 c115 ne108)
  refine Go.alen (z := (4 : Int32)) (pc' := 11) C X119 e119 c121 rfl d29_10 rfl ?_
  refine Go.icmpNo (pc' := 14) C X119 d29_11 (tlt (x := (3 : Int32)) (y := (4 : Int32)) (by decide)).2.1 rfl ?_
  refine Go.aloadN (pc' := 15) C X119 d29_14 rfl rfl rfl ?_
  refine Go.iloadN (pc' := 16) C X119 d29_15 rfl rfl ?_
  refine Go.aloadN (pc' := 17) C X119 d29_16 rfl rfl rfl ?_
  refine Go.iloadN (pc' := 18) C X119 d29_17 rfl rfl ?_
  refine Go.ldR (i := 3) (v := (.ref d)) (pc' := 19) C X119 e119 c121 (by decide) (by decide) rfl rfl d29_18 rfl ?_
  have O124 : Ext Z.heap h119 := (Ext.wr O118 W119 n_b101)
  refine Go.callS (y := (⟨"java/util/Objects", "requireNonNull", "(Ljava/lang/Object;)Ljava/lang/Object;"⟩ : MethodName)) (pc' := 22) C X119 (tw hw 204 rfl) (tw hw 205 rfl) (by decide) (rm_rn l Z a0 hw d h119 O124 ) (tw hw 207 rfl) (tw hw 206 rfl) e119 (argsL := [(.ref d)]) (rest := [(.int (3 : Int32)), (.ref b101)]) (W := 2) rfl rfl pd_8 rfl (Nat.le_of_eq rfl) rfl (by decide) (by decide) (by decide) (by decide) d29_19 rfl ?_
  intro T123 v123 L123 X123 q123
  obtain ⟨rfl, rfl, e123⟩ := q123
  have N123 := Fr.app N119 (Fr.nil _)
  have c126 : Exa Z h119 d "com/example/tranche/tranche/journal/DefaultRateChange" := (Exa.wr W119 c120)
  refine Go.stR (i := 3) (vs' := [(.ref d), (.ref d), (.ref d), (.ref d)]) (pc' := 23) C X123 e123 A119 (by decide) (by decide) (by simp) rfl (AL.sto A119 O101v (Ins.of_exa c126 (tw hw 149 rfl))) rfl d29_22 rfl ?_
  intro T125 h125 X125 e125 W125 A125
  have N125 := Fr.snoc X125 N123 n_b101
  refine Go.iinc (Ls' := #[.val (.ref v), .val (.ref b101), .val (.int ((3 : Int32) + (1 : Int32)))]) (z := (1 : Int32)) (pc' := 26) C X125 d29_23 rfl rfl rfl rfl ?_
  rw [show ((3 : Int32) + (1 : Int32)) = (4 : Int32) from by decide]
  refine Go.goto (pc' := 8) C X125 d29_26 (by decide) (by decide) ?_
  refine Go.iloadN (pc' := 9) C X125 d29_8 rfl rfl ?_
  refine Go.aloadN (pc' := 10) C X125 d29_9 rfl rfl rfl ?_
  have c127 : AL Z h125 v kv (.object "java/lang/Object") [(.ref d), (.ref d), (.ref d), (.ref d)] := (AL.other W125 c121 ne108)
  refine Go.alen (z := (4 : Int32)) (pc' := 11) C X125 e125 c127 rfl d29_10 rfl ?_
  refine Go.icmpYes (pc' := 29) C X125 d29_11 (flt (x := (4 : Int32)) (y := (4 : Int32)) (by decide)).2.1 (by decide) (by decide) ?_
  have O130 : Ext Z.heap h125 := (Ext.wr O124 W125 n_b101)
  refine Go.newO (pc' := 32) C X125 (tw hw 99 rfl) (tw hw 208 rfl) (tw hw 163 rfl) e125 (by decide) (by decide) d29_29 rfl ?_
  intro T129 h129 b129 X129 e129 g129 E129 A129 D129
  have n_b129 : Z.heap.size ≤ b129 := Nat.le_trans O130.1 (Nat.le_of_eq g129.symm)
  have z_b129 : h0.size ≤ b129 := Nat.le_trans (Nat.le_trans (Nat.le_trans (Nat.le_trans (Nat.le_trans (Nat.le_trans (Nat.le_refl _) E101.1) (Nat.le_of_eq W106.size.symm)) (Nat.le_of_eq W113.size.symm)) (Nat.le_of_eq W119.size.symm)) (Nat.le_of_eq W125.size.symm)) (Nat.le_of_eq g129.symm)
  have F129_elements : Fld Z h129 b129 "java/util/ImmutableCollections$ListN" "elements" "[Ljava/lang/Object;" .null := D129 (Or.inr (tw hw 166 rfl)) (ty := (.array (.object "java/lang/Object"))) (by decide)
  have F129_allowNulls : Fld Z h129 b129 "java/util/ImmutableCollections$ListN" "allowNulls" "Z" (.int (0 : Int32)) := D129 (Or.inr (tw hw 228 rfl)) (ty := .boolean) (by decide)
  refine Go.dup (pc' := 33) C X129 d29_32 rfl rfl ?_
  refine Go.aloadN (pc' := 34) C X129 d29_33 rfl rfl rfl ?_
  refine Go.iconst (z := (0 : Int32)) (pc' := 35) C X129 d29_34 rfl rfl ?_
  have O132 : Ext Z.heap h129 := (Ext.trans O130 E129)
  refine Go.callIN (y := (⟨"java/util/ImmutableCollections$ListN", "<init>", "([Ljava/lang/Object;Z)V"⟩ : MethodName)) (a := b129) (pc' := 38) C X129 rfl (tw hw 209 rfl) (tw hw 210 rfl) (by decide) (rm_lnI l Z a0 hw b129 b101 h129 O132 A129 F129_elements F129_allowNulls n_b129) (tw hw 212 rfl) (tw hw 163 rfl) e129 (argsL := [(.ref b101), (.int (0 : Int32))]) (rest := [(.ref b129)]) (W := 1) rfl rfl pd_13 rfl (Nat.le_of_eq rfl) rfl (by decide) (by decide) (by decide) (by decide) rfl d29_35 rfl ?_
  intro T131 v131 L131 X131 q131
  obtain ⟨rfl, N131q, K131, P131_0⟩ := q131
  have N131 := Fr.app N125 N131q
  have K133 : Keep h0 T131.heap [] := ((((((((Keep.refl h0 []).ext E101).wr W106 (Or.inr z_b101)).wr W113 (Or.inr z_b101)).wr W119 (Or.inr z_b101)).wr W125 (Or.inr z_b101)).ext E129).trans K131 (allS (Or.inr z_b129) all0))
  have c134 : Exa Z T131.heap b129 "java/util/ImmutableCollections$ListN" := (Exa.keep A129 K131)
  have ne135 : b101 ≠ b129 := Nat.ne_of_lt (Nat.lt_of_lt_of_le A101.lt (Nat.le_trans (Nat.le_trans (Nat.le_trans (Nat.le_trans (Nat.le_trans (Nat.le_refl _) (Nat.le_of_eq W106.size.symm)) (Nat.le_of_eq W113.size.symm)) (Nat.le_of_eq W119.size.symm)) (Nat.le_of_eq W125.size.symm)) (Nat.le_of_eq g129.symm)))
  have c136 : AL Z T131.heap b101 k101 (.object "java/lang/Object") [(.ref d), (.ref d), (.ref d), (.ref d)] := (AL.keep (AL.ext E129 A125) K131 (ninS ne135 nin0))
  exact Go.retA C X131 rfl d29_38 rfl rfl rfl ⟨b129, b101, k101, rfl, N131, K133, z_b129, z_b101, c134, P131_0, c136⟩ (by decide) (by decide)
def Q_lof4 (Z : State) (d : Addr) (v : Addr) (kv : ClassId) (h0 : Heap) (rv : Option Value) (h : Heap) (L : List Loc) : Prop := ∃ r : Addr, ∃ q : Addr, ∃ kq : ClassId, rv = some (.ref r) ∧ Fr Z.heap.size L ∧ Keep h0 h [] ∧ h0.size ≤ r ∧ h0.size ≤ q ∧ Exa Z h r "java/util/ImmutableCollections$ListN" ∧ Fld Z h r "java/util/ImmutableCollections$ListN" "elements" "[Ljava/lang/Object;" (.ref q) ∧ AL Z h q kq (.object "java/lang/Object") [(.ref d), (.ref d), (.ref d), (.ref d)]
set_option maxRecDepth 65536 in
set_option maxHeartbeats 40000000 in
theorem rm_lof4 (l : Launch) (Z : State) (a0 : Array Value) (hw : ∀ d ∈ tables_1, d.before a0 Z = true) (d : Addr) (v : Addr) (kv : ClassId) (h0 : Heap) (O0 : Ext Z.heap h0) (Av : AL Z h0 v kv (.object "java/lang/Object") [(.ref d), (.ref d), (.ref d), (.ref d)]) (Ed : Exa Z h0 d "com/example/tranche/tranche/journal/DefaultRateChange") :
    Met1 l Z (⟨"java/util/List", "of", "([Ljava/lang/Object;)Ljava/util/List;"⟩ : MethodName) jdk_40_method_47_code 2 (some (.object "java/util/List")) ({ frames := 6, cells := 2, slots := 6, locals := 77 } : Room) #[(.ref v)] h0 (Q_lof4 Z d v kv h0) := by
  refine Met1.of_body (Ls := #[.val (.ref v), .unset]) pf_28 (fun m => by first | (simp [entryFrame, mkF, argsToLocals, Value.category]; done) | rfl) ?_
  intro p e s m below meth c T0 C X0 e0
  have N0 : Fr Z.heap.size [] := Fr.nil _
  refine Go.aloadN (pc' := 1) C X0 d28_0 rfl rfl rfl ?_
  refine Go.alen (z := (4 : Int32)) (pc' := 2) C X0 e0 Av rfl d28_1 rfl ?_
  refine Go.tswOut (pc' := 59) C X0 d28_2 (by decide) (by decide) (by decide) ?_
  refine Go.aloadN (pc' := 60) C X0 d28_59 rfl rfl rfl ?_
  refine Go.callS (y := (⟨"java/util/ImmutableCollections", "listFromArray", "([Ljava/lang/Object;)Ljava/util/List;"⟩ : MethodName)) (pc' := 63) C X0 (tw hw 200 rfl) (tw hw 201 rfl) (by decide) (rm_lfa4 l Z a0 hw d v kv h0 O0 Av Ed) (tw hw 202 rfl) (tw hw 92 rfl) e0 (argsL := [(.ref v)]) (rest := []) (W := 0) rfl rfl pd_14 rfl (Nat.le_of_eq rfl) rfl (by decide) (by decide) (by decide) (by decide) d28_60 rfl ?_
  intro T101 v101 L101 X101 q101
  obtain ⟨r_101, q_101, kq_101, rfl, N101q, K101, B101_0, B101_1, P101_0, P101_1, P101_2⟩ := q101
  have N101 := Fr.app N0 N101q
  have n_r_101 : Z.heap.size ≤ r_101 := Nat.le_trans O0.1 B101_0
  have z_r_101 : h0.size ≤ r_101 := Nat.le_trans (Nat.le_refl _) B101_0
  have n_q_101 : Z.heap.size ≤ q_101 := Nat.le_trans O0.1 B101_1
  have z_q_101 : h0.size ≤ q_101 := Nat.le_trans (Nat.le_refl _) B101_1
  have K102 : Keep h0 T101.heap [] := ((Keep.refl h0 []).trans K101 all0)
  exact Go.retA C X101 rfl d28_63 rfl rfl rfl ⟨r_101, q_101, kq_101, rfl, N101, K102, z_r_101, z_q_101, P101_0, P101_1, P101_2⟩ (by decide) (by decide)
def Q_emp5 (Z : State) (r : Addr) (h0 : Heap) (rv : Option Value) (h : Heap) (L : List Loc) : Prop := rv = some (.int (0 : Int32)) ∧ L = [] ∧ h = h0
set_option maxRecDepth 65536 in
set_option maxHeartbeats 40000000 in
theorem rm_emp5 (l : Launch) (Z : State) (a0 : Array Value) (hw : ∀ d ∈ tables_1, d.before a0 Z = true) (r : Addr) (h0 : Heap) (O0 : Ext Z.heap h0) (F3 : Fld Z h0 r "java/util/ArrayList" "size" "I" (.int (5 : Int32))) :
    Met1 l Z (⟨"java/util/ArrayList", "isEmpty", "()Z"⟩ : MethodName) jdk_38_method_9_code 1 (some .boolean) ({ frames := 0, cells := 0, slots := 0, locals := 0 } : Room) #[(.ref r)] h0 (Q_emp5 Z r h0) := by
  refine Met1.of_body (Ls := #[.val (.ref r)]) pf_15 (fun m => by first | (simp [entryFrame, mkF, argsToLocals, Value.category]; done) | rfl) ?_
  intro p e s m below meth c T0 C X0 e0
  have N0 : Fr Z.heap.size [] := Fr.nil _
  refine Go.aloadN (pc' := 1) C X0 d15_0 rfl rfl rfl ?_
  refine Go.getF (pc' := 4) (host := "") C X0 (Or.inl (tw hw 109 rfl)) Via.refl e0 F3 d15_1 rfl ?_
  intro T101 X101 e101
  refine Go.ifYes (pc' := 11) C X101 d15_4 ((if0 _ _).trans (feq (x := (5 : Int32)) (y := (0 : Int32)) (by decide)).2) (by decide) (by decide) ?_
  refine Go.iconst (z := (0 : Int32)) (pc' := 12) C X101 d15_11 rfl rfl ?_
  exact Go.retN C X101 rfl d15_12 (by simp) (by rw [e101]; exact ⟨rfl, rfl, rfl⟩) (by decide) (by decide)
def Q_mn5 (Z : State)  (h0 : Heap) (rv : Option Value) (h : Heap) (L : List Loc) : Prop := rv = some (.int (5 : Int32)) ∧ L = [] ∧ h = h0
set_option maxRecDepth 65536 in
set_option maxHeartbeats 40000000 in
theorem rm_mn5 (l : Launch) (Z : State) (a0 : Array Value) (hw : ∀ d ∈ tables_1, d.before a0 Z = true)  (h0 : Heap) (O0 : Ext Z.heap h0) :
    Met1 l Z (⟨"java/lang/Math", "min", "(II)I"⟩ : MethodName) jdk_29_method_69_code 2 (some .int) ({ frames := 0, cells := 0, slots := 0, locals := 0 } : Room) #[(.int (10 : Int32)), (.int (5 : Int32))] h0 (Q_mn5 Z  h0) := by
  refine Met1.of_body (Ls := #[.val (.int (10 : Int32)), .val (.int (5 : Int32))]) pf_27 (fun m => by first | (simp [entryFrame, mkF, argsToLocals, Value.category]; done) | rfl) ?_
  intro p e s m below meth c T0 C X0 e0
  have N0 : Fr Z.heap.size [] := Fr.nil _
  refine Go.iloadN (pc' := 1) C X0 d27_0 rfl rfl ?_
  refine Go.iloadN (pc' := 2) C X0 d27_1 rfl rfl ?_
  refine Go.icmpYes (pc' := 9) C X0 d27_2 (tlt (x := (5 : Int32)) (y := (10 : Int32)) (by decide)).2.2.1 (by decide) (by decide) ?_
  refine Go.iloadN (pc' := 10) C X0 d27_9 rfl rfl ?_
  exact Go.retI C X0 rfl d27_10 (by rw [e0]; exact ⟨rfl, rfl, rfl⟩) (by decide) (by decide)
def Q_cpc5 (Z : State) (d : Addr) (w : Addr) (kw : ClassId) (mr : Addr) (h0 : Heap) (rv : Option Value) (h : Heap) (L : List Loc) : Prop := ∃ v : Addr, ∃ kv : ClassId, rv = some (.ref v) ∧ Fr Z.heap.size L ∧ Keep h0 h [] ∧ h0.size ≤ v ∧ AL Z h v kv (.object "java/lang/Object") [(.ref d), (.ref d), (.ref d), (.ref d), (.ref d)]
set_option maxRecDepth 65536 in
set_option maxHeartbeats 40000000 in
theorem rm_cpc5 (l : Launch) (Z : State) (a0 : Array Value) (hw : ∀ d ∈ tables_1, d.before a0 Z = true) (d : Addr) (w : Addr) (kw : ClassId) (mr : Addr) (h0 : Heap) (O0 : Ext Z.heap h0) (Ew : Exa Z h0 w "[Ljava/lang/Object;") (Aw : AL Z h0 w kw (.object "java/lang/Object") [(.ref d), (.ref d), (.ref d), (.ref d), (.ref d), .null, .null, .null, .null, .null]) (Ed : Exa Z h0 d "com/example/tranche/tranche/journal/DefaultRateChange") (hM : Mir Z "[Ljava/lang/Object;" mr) :
    Met1 l Z (⟨"java/util/Arrays", "copyOf", "([Ljava/lang/Object;ILjava/lang/Class;)[Ljava/lang/Object;"⟩ : MethodName) jdk_65_method_120_code 4 (some (.array (.object "java/lang/Object"))) ({ frames := 1, cells := 1, slots := 5, locals := 18 } : Room) #[(.ref w), (.int (5 : Int32)), (.ref mr)] h0 (Q_cpc5 Z d w kw mr h0) := by
  refine Met1.of_body (Ls := #[.val (.ref w), .val (.int (5 : Int32)), .val (.ref mr), .unset]) pf_26 (fun m => by first | (simp [entryFrame, mkF, argsToLocals, Value.category]; done) | rfl) ?_
  intro p e s m below meth c T0 C X0 e0
  have N0 : Fr Z.heap.size [] := Fr.nil _
  refine Go.aloadN (pc' := 1) C X0 d26_0 rfl rfl rfl ?_
  refine Go.ldcM (pc' := 3) C X0 (tw hw 188 rfl) e0 hM d26_1 rfl ?_
  intro T101 X101 e101
  refine Go.acmpNo (pc' := 6) C X101 d26_3 rfl rfl (XT.aa_ne_f rfl) rfl ?_
  refine Go.iloadN (pc' := 7) C X101 d26_6 rfl rfl ?_
  refine Go.newR (cap := 5) (vs := [.null, .null, .null, .null, .null]) (ad := "[Ljava/lang/Object;") (pc' := 10) C X101 (by decide) (tw hw 189 rfl) (tw hw 148 rfl) e101 (by decide) (by decide) (by decide) (by decide) (by decide) rfl d26_7 rfl ?_
  intro T102 h102 b102 k102 X102 e102 g102 E102 A102 Ea102 O102v
  have n_b102 : Z.heap.size ≤ b102 := Nat.le_trans O0.1 (Nat.le_of_eq g102.symm)
  have z_b102 : h0.size ≤ b102 := Nat.le_trans (Nat.le_refl _) (Nat.le_of_eq g102.symm)
  have A102 : AL Z h102 b102 k102 (.object "java/lang/Object") [.null, .null, .null, .null, .null] := A102
  refine Go.goto (pc' := 24) C X102 d26_10 (by decide) (by decide) ?_
  refine Go.astoreN (Ls' := #[.val (.ref w), .val (.int (5 : Int32)), .val (.ref mr), .val (.ref b102)]) (pc' := 25) C X102 d26_24 rfl rfl rfl ?_
  refine Go.aloadN (pc' := 26) C X102 d26_25 rfl rfl rfl ?_
  refine Go.iconst (z := (0 : Int32)) (pc' := 27) C X102 d26_26 rfl rfl ?_
  refine Go.aloadN (pc' := 28) C X102 d26_27 rfl rfl rfl ?_
  refine Go.iconst (z := (0 : Int32)) (pc' := 29) C X102 d26_28 rfl rfl ?_
  refine Go.aloadN (pc' := 30) C X102 d26_29 rfl rfl rfl ?_
  have c103 : AL Z h102 w kw (.object "java/lang/Object") [(.ref d), (.ref d), (.ref d), (.ref d), (.ref d), .null, .null, .null, .null, .null] := (AL.ext E102 Aw)
  refine Go.alen (z := (10 : Int32)) (pc' := 31) C X102 e102 c103 rfl d26_30 rfl ?_
  refine Go.iloadN (pc' := 32) C X102 d26_31 rfl rfl ?_
  have O105 : Ext Z.heap h102 := (Ext.trans O0 E102)
  refine Go.callS (y := (⟨"java/lang/Math", "min", "(II)I"⟩ : MethodName)) (pc' := 35) C X102 (tw hw 190 rfl) (tw hw 191 rfl) (by decide) (rm_mn5 l Z a0 hw  h102 O105 ) (tw hw 192 rfl) (tw hw 145 rfl) e102 (argsL := [(.int (10 : Int32)), (.int (5 : Int32))]) (rest := [(.int (0 : Int32)), (.ref b102), (.int (0 : Int32)), (.ref w)]) (W := 4) rfl rfl pd_4 rfl (Nat.le_of_eq rfl) rfl (by decide) (by decide) (by decide) (by decide) d26_32 rfl ?_
  intro T104 v104 L104 X104 q104
  obtain ⟨rfl, rfl, e104⟩ := q104
  have N104 := Fr.app N0 (Fr.nil _)
  have c107 : Exa Z h102 d "com/example/tranche/tranche/journal/DefaultRateChange" := (Exa.ext E102 Ed)
  refine Go.arrcopy (i := 0) (j := 0) (n := 5) (vd' := [(.ref d), (.ref d), (.ref d), (.ref d), (.ref d)]) (W := 0) (n0 := Z.heap.size) (pc' := 38) C X104 (tw hw 193 rfl) (tw hw 196 rfl) (tw hw 194 rfl) (tw hw 195 rfl) e104 c103 A102 (by simp [fits]) (by simp [fits]) (by simp) (by simp) (Or.inr ⟨rfl, rfl, ⟨(AL.sto A102 O102v (Ins.of_exa c107 (tw hw 149 rfl))), ⟨(AL.sto A102 O102v (Ins.of_exa c107 (tw hw 149 rfl))), ⟨(AL.sto A102 O102v (Ins.of_exa c107 (tw hw 149 rfl))), ⟨(AL.sto A102 O102v (Ins.of_exa c107 (tw hw 149 rfl))), ⟨(AL.sto A102 O102v (Ins.of_exa c107 (tw hw 149 rfl))), trivial⟩⟩⟩⟩⟩⟩) (by decide) (by decide) (by decide) (by decide) (by decide) (by decide) (by simp) (by simp) rfl N104 n_b102 rfl (by decide) (Nat.le_of_eq rfl) (by decide) d26_35 rfl ?_
  intro T106 h106 L106 X106 e106 N106 K106 A106
  refine Go.aloadN (pc' := 39) C X106 d26_38 rfl rfl rfl ?_
  have K108 : Keep h0 h106 [] := (((Keep.refl h0 []).ext E102).trans K106 (allS (Or.inr z_b102) all0))
  exact Go.retA C X106 rfl d26_39 rfl rfl rfl (by rw [e106]; exact ⟨b102, k102, rfl, N106, K108, z_b102, A106⟩) (by decide) (by decide)
def Q_cp5 (Z : State) (d : Addr) (w : Addr) (kw : ClassId) (mr : Addr) (h0 : Heap) (rv : Option Value) (h : Heap) (L : List Loc) : Prop := ∃ v : Addr, ∃ kv : ClassId, rv = some (.ref v) ∧ Fr Z.heap.size L ∧ Keep h0 h [] ∧ h0.size ≤ v ∧ AL Z h v kv (.object "java/lang/Object") [(.ref d), (.ref d), (.ref d), (.ref d), (.ref d)]
set_option maxRecDepth 65536 in
set_option maxHeartbeats 40000000 in
theorem rm_cp5 (l : Launch) (Z : State) (a0 : Array Value) (hw : ∀ d ∈ tables_1, d.before a0 Z = true) (d : Addr) (w : Addr) (kw : ClassId) (mr : Addr) (h0 : Heap) (O0 : Ext Z.heap h0) (Ew : Exa Z h0 w "[Ljava/lang/Object;") (Aw : AL Z h0 w kw (.object "java/lang/Object") [(.ref d), (.ref d), (.ref d), (.ref d), (.ref d), .null, .null, .null, .null, .null]) (Ed : Exa Z h0 d "com/example/tranche/tranche/journal/DefaultRateChange") (hM : Mir Z "[Ljava/lang/Object;" mr) :
    Met1 l Z (⟨"java/util/Arrays", "copyOf", "([Ljava/lang/Object;I)[Ljava/lang/Object;"⟩ : MethodName) jdk_65_method_119_code 2 (some (.array (.object "java/lang/Object"))) ({ frames := 2, cells := 1, slots := 5, locals := 33 } : Room) #[(.ref w), (.int (5 : Int32))] h0 (Q_cp5 Z d w kw mr h0) := by
  refine Met1.of_body (Ls := #[.val (.ref w), .val (.int (5 : Int32))]) pf_25 (fun m => by first | (simp [entryFrame, mkF, argsToLocals, Value.category]; done) | rfl) ?_
  intro p e s m below meth c T0 C X0 e0
  have N0 : Fr Z.heap.size [] := Fr.nil _
  refine Go.aloadN (pc' := 1) C X0 d25_0 rfl rfl rfl ?_
  refine Go.iloadN (pc' := 2) C X0 d25_1 rfl rfl ?_
  refine Go.aloadN (pc' := 3) C X0 d25_2 rfl rfl rfl ?_
  refine Go.gcls (W := 2) (pc' := 6) C X0 (tw hw 179 rfl) (tw hw 180 rfl) (tw hw 98 rfl) (tw hw 182 rfl) (tw hw 181 rfl) (tw hw 183 rfl) e0 Ew hM rfl (by decide) (Nat.le_of_eq rfl) (by decide) d25_3 rfl ?_
  intro T101 X101 e101
  refine Go.callS (y := (⟨"java/util/Arrays", "copyOf", "([Ljava/lang/Object;ILjava/lang/Class;)[Ljava/lang/Object;"⟩ : MethodName)) (pc' := 9) C X101 (tw hw 185 rfl) (tw hw 186 rfl) (by decide) (rm_cpc5 l Z a0 hw d w kw mr h0 O0 Ew Aw Ed hM) (tw hw 187 rfl) (tw hw 177 rfl) e101 (argsL := [(.ref w), (.int (5 : Int32)), (.ref mr)]) (rest := []) (W := 0) rfl rfl pd_9 rfl (Nat.le_of_eq rfl) rfl (by decide) (by decide) (by decide) (by decide) d25_6 rfl ?_
  intro T102 v102 L102 X102 q102
  obtain ⟨v_102, kv_102, rfl, N102q, K102, B102_0, P102_0⟩ := q102
  have N102 := Fr.app N0 N102q
  have n_v_102 : Z.heap.size ≤ v_102 := Nat.le_trans O0.1 B102_0
  have z_v_102 : h0.size ≤ v_102 := Nat.le_trans (Nat.le_refl _) B102_0
  have K103 : Keep h0 T102.heap [] := ((Keep.refl h0 []).trans K102 all0)
  exact Go.retA C X102 rfl d25_9 rfl rfl rfl ⟨v_102, kv_102, rfl, N102, K103, z_v_102, P102_0⟩ (by decide) (by decide)
def Q_ta5 (Z : State) (r : Addr) (d : Addr) (w : Addr) (kw : ClassId) (mr : Addr) (h0 : Heap) (rv : Option Value) (h : Heap) (L : List Loc) : Prop := ∃ v : Addr, ∃ kv : ClassId, rv = some (.ref v) ∧ Fr Z.heap.size L ∧ Keep h0 h [] ∧ h0.size ≤ v ∧ AL Z h v kv (.object "java/lang/Object") [(.ref d), (.ref d), (.ref d), (.ref d), (.ref d)]
set_option maxRecDepth 65536 in
set_option maxHeartbeats 40000000 in
theorem rm_ta5 (l : Launch) (Z : State) (a0 : Array Value) (hw : ∀ d ∈ tables_1, d.before a0 Z = true) (r : Addr) (d : Addr) (w : Addr) (kw : ClassId) (mr : Addr) (h0 : Heap) (O0 : Ext Z.heap h0) (F2 : Fld Z h0 r "java/util/ArrayList" "elementData" "[Ljava/lang/Object;" (.ref w)) (F3 : Fld Z h0 r "java/util/ArrayList" "size" "I" (.int (5 : Int32))) (Ew : Exa Z h0 w "[Ljava/lang/Object;") (Aw : AL Z h0 w kw (.object "java/lang/Object") [(.ref d), (.ref d), (.ref d), (.ref d), (.ref d), .null, .null, .null, .null, .null]) (Ed : Exa Z h0 d "com/example/tranche/tranche/journal/DefaultRateChange") (hM : Mir Z "[Ljava/lang/Object;" mr) :
    Met1 l Z (⟨"java/util/ArrayList", "toArray", "()[Ljava/lang/Object;"⟩ : MethodName) jdk_38_method_16_code 1 (some (.array (.object "java/lang/Object"))) ({ frames := 3, cells := 1, slots := 5, locals := 46 } : Room) #[(.ref r)] h0 (Q_ta5 Z r d w kw mr h0) := by
  refine Met1.of_body (Ls := #[.val (.ref r)]) pf_24 (fun m => by first | (simp [entryFrame, mkF, argsToLocals, Value.category]; done) | rfl) ?_
  intro p e s m below meth c T0 C X0 e0
  have N0 : Fr Z.heap.size [] := Fr.nil _
  refine Go.aloadN (pc' := 1) C X0 d24_0 rfl rfl rfl ?_
  refine Go.getF (pc' := 4) (host := "") C X0 (Or.inl (tw hw 77 rfl)) Via.refl e0 F2 d24_1 rfl ?_
  intro T101 X101 e101
  refine Go.aloadN (pc' := 5) C X101 d24_4 rfl rfl rfl ?_
  refine Go.getF (pc' := 8) (host := "") C X101 (Or.inl (tw hw 109 rfl)) Via.refl e101 F3 d24_5 rfl ?_
  intro T102 X102 e102
  refine Go.callS (y := (⟨"java/util/Arrays", "copyOf", "([Ljava/lang/Object;I)[Ljava/lang/Object;"⟩ : MethodName)) (pc' := 11) C X102 (tw hw 175 rfl) (tw hw 176 rfl) (by decide) (rm_cp5 l Z a0 hw d w kw mr h0 O0 Ew Aw Ed hM) (tw hw 178 rfl) (tw hw 177 rfl) e102 (argsL := [(.ref w), (.int (5 : Int32))]) (rest := []) (W := 0) rfl rfl pd_10 rfl (Nat.le_of_eq rfl) rfl (by decide) (by decide) (by decide) (by decide) d24_8 rfl ?_
  intro T103 v103 L103 X103 q103
  obtain ⟨v_103, kv_103, rfl, N103q, K103, B103_0, P103_0⟩ := q103
  have N103 := Fr.app N0 N103q
  have n_v_103 : Z.heap.size ≤ v_103 := Nat.le_trans O0.1 B103_0
  have z_v_103 : h0.size ≤ v_103 := Nat.le_trans (Nat.le_refl _) B103_0
  have K104 : Keep h0 T103.heap [] := ((Keep.refl h0 []).trans K103 all0)
  exact Go.retA C X103 rfl d24_11 rfl rfl rfl ⟨v_103, kv_103, rfl, N103, K104, z_v_103, P103_0⟩ (by decide) (by decide)
def Q_lfa5 (Z : State) (d : Addr) (v : Addr) (kv : ClassId) (h0 : Heap) (rv : Option Value) (h : Heap) (L : List Loc) : Prop := ∃ r : Addr, ∃ q : Addr, ∃ kq : ClassId, rv = some (.ref r) ∧ Fr Z.heap.size L ∧ Keep h0 h [] ∧ h0.size ≤ r ∧ h0.size ≤ q ∧ Exa Z h r "java/util/ImmutableCollections$ListN" ∧ Fld Z h r "java/util/ImmutableCollections$ListN" "elements" "[Ljava/lang/Object;" (.ref q) ∧ AL Z h q kq (.object "java/lang/Object") [(.ref d), (.ref d), (.ref d), (.ref d), (.ref d)]
set_option maxRecDepth 65536 in
set_option maxHeartbeats 40000000 in
theorem rm_lfa5 (l : Launch) (Z : State) (a0 : Array Value) (hw : ∀ d ∈ tables_1, d.before a0 Z = true) (d : Addr) (v : Addr) (kv : ClassId) (h0 : Heap) (O0 : Ext Z.heap h0) (Av : AL Z h0 v kv (.object "java/lang/Object") [(.ref d), (.ref d), (.ref d), (.ref d), (.ref d)]) (Ed : Exa Z h0 d "com/example/tranche/tranche/journal/DefaultRateChange") :
    Met1 l Z (⟨"java/util/ImmutableCollections", "listFromArray", "([Ljava/lang/Object;)Ljava/util/List;"⟩ : MethodName) jdk_56_method_4_code 3 (some (.object "java/util/List")) ({ frames := 5, cells := 2, slots := 7, locals := 63 } : Room) #[(.ref v)] h0 (Q_lfa5 Z d v kv h0) := by
  refine Met1.of_body (Ls := #[.val (.ref v), .unset, .unset]) pf_29 (fun m => by first | (simp [entryFrame, mkF, argsToLocals, Value.category]; done) | rfl) ?_
  intro p e s m below meth c T0 C X0 e0
  have N0 : Fr Z.heap.size [] := Fr.nil _
  refine Go.aloadN (pc' := 1) C X0 d29_0 rfl rfl rfl ?_
  refine Go.alen (z := (5 : Int32)) (pc' := 2) C X0 e0 Av rfl d29_1 rfl ?_
  refine Go.newR (cap := 5) (vs := [.null, .null, .null, .null, .null]) (ad := "[Ljava/lang/Object;") (pc' := 5) C X0 (by decide) (tw hw 203 rfl) (tw hw 148 rfl) e0 (by decide) (by decide) (by decide) (by decide) (by decide) rfl d29_2 rfl ?_
  intro T101 h101 b101 k101 X101 e101 g101 E101 A101 Ea101 O101v
  have n_b101 : Z.heap.size ≤ b101 := Nat.le_trans O0.1 (Nat.le_of_eq g101.symm)
  have z_b101 : h0.size ≤ b101 := Nat.le_trans (Nat.le_refl _) (Nat.le_of_eq g101.symm)
  have A101 : AL Z h101 b101 k101 (.object "java/lang/Object") [.null, .null, .null, .null, .null] := A101
  refine Go.astoreN (Ls' := #[.val (.ref v), .val (.ref b101), .unset]) (pc' := 6) C X101 d29_5 rfl rfl rfl ?_
  refine Go.iconst (z := (0 : Int32)) (pc' := 7) C X101 d29_6 rfl rfl ?_
  refine Go.istoreN (Ls' := #[.val (.ref v), .val (.ref b101), .val (.int (0 : Int32))]) (pc' := 8) C X101 d29_7 rfl rfl ?_
  refine Go.iloadN (pc' := 9) C X101 d29_8 rfl rfl ?_
  refine Go.aloadN (pc' := 10) C X101 d29_9 rfl rfl rfl ?_
  have c102 : AL Z h101 v kv (.object "java/lang/Object") [(.ref d), (.ref d), (.ref d), (.ref d), (.ref d)] := (AL.ext E101 Av)
  refine Go.alen (z := (5 : Int32)) (pc' := 11) C X101 e101 c102 rfl d29_10 rfl ?_
  refine Go.icmpNo (pc' := 14) C X101 d29_11 (tlt (x := (0 : Int32)) (y := (5 : Int32)) (by decide)).2.1 rfl ?_
  refine Go.aloadN (pc' := 15) C X101 d29_14 rfl rfl rfl ?_
  refine Go.iloadN (pc' := 16) C X101 d29_15 rfl rfl ?_
  refine Go.aloadN (pc' := 17) C X101 d29_16 rfl rfl rfl ?_
  refine Go.iloadN (pc' := 18) C X101 d29_17 rfl rfl ?_
  refine Go.ldR (i := 0) (v := (.ref d)) (pc' := 19) C X101 e101 c102 (by decide) (by decide) rfl rfl d29_18 rfl ?_
  have O105 : Ext Z.heap h101 := (Ext.trans O0 E101)
  refine Go.callS (y := (⟨"java/util/Objects", "requireNonNull", "(Ljava/lang/Object;)Ljava/lang/Object;"⟩ : MethodName)) (pc' := 22) C X101 (tw hw 204 rfl) (tw hw 205 rfl) (by decide) (rm_rn l Z a0 hw d h101 O105 ) (tw hw 207 rfl) (tw hw 206 rfl) e101 (argsL := [(.ref d)]) (rest := [(.int (0 : Int32)), (.ref b101)]) (W := 2) rfl rfl pd_8 rfl (Nat.le_of_eq rfl) rfl (by decide) (by decide) (by decide) (by decide) d29_19 rfl ?_
  intro T104 v104 L104 X104 q104
  obtain ⟨rfl, rfl, e104⟩ := q104
  have N104 := Fr.app N0 (Fr.nil _)
  have c107 : Exa Z h101 d "com/example/tranche/tranche/journal/DefaultRateChange" := (Exa.ext E101 Ed)
  refine Go.stR (i := 0) (vs' := [(.ref d), .null, .null, .null, .null]) (pc' := 23) C X104 e104 A101 (by decide) (by decide) (by simp) rfl (AL.sto A101 O101v (Ins.of_exa c107 (tw hw 149 rfl))) rfl d29_22 rfl ?_
  intro T106 h106 X106 e106 W106 A106
  have N106 := Fr.snoc X106 N104 n_b101
  refine Go.iinc (Ls' := #[.val (.ref v), .val (.ref b101), .val (.int ((0 : Int32) + (1 : Int32)))]) (z := (1 : Int32)) (pc' := 26) C X106 d29_23 rfl rfl rfl rfl ?_
  rw [show ((0 : Int32) + (1 : Int32)) = (1 : Int32) from by decide]
  refine Go.goto (pc' := 8) C X106 d29_26 (by decide) (by decide) ?_
  refine Go.iloadN (pc' := 9) C X106 d29_8 rfl rfl ?_
  refine Go.aloadN (pc' := 10) C X106 d29_9 rfl rfl rfl ?_
  have ne108 : v ≠ b101 := Nat.ne_of_lt (Nat.lt_of_lt_of_le Av.lt (Nat.le_trans (Nat.le_refl _) (Nat.le_of_eq g101.symm)))
  have c109 : AL Z h106 v kv (.object "java/lang/Object") [(.ref d), (.ref d), (.ref d), (.ref d), (.ref d)] := (AL.other W106 c102 ne108)
  refine Go.alen (z := (5 : Int32)) (pc' := 11) C X106 e106 c109 rfl d29_10 rfl ?_
  refine Go.icmpNo (pc' := 14) C X106 d29_11 (tlt (x := (1 : Int32)) (y := (5 : Int32)) (by decide)).2.1 rfl ?_
  refine Go.aloadN (pc' := 15) C X106 d29_14 rfl rfl rfl ?_
  refine Go.iloadN (pc' := 16) C X106 d29_15 rfl rfl ?_
  refine Go.aloadN (pc' := 17) C X106 d29_16 rfl rfl rfl ?_
  refine Go.iloadN (pc' := 18) C X106 d29_17 rfl rfl ?_
  refine Go.ldR (i := 1) (v := (.ref d)) (pc' := 19) C X106 e106 c109 (by decide) (by decide) rfl rfl d29_18 rfl ?_
  have O112 : Ext Z.heap h106 := (Ext.wr O105 W106 n_b101)
  refine Go.callS (y := (⟨"java/util/Objects", "requireNonNull", "(Ljava/lang/Object;)Ljava/lang/Object;"⟩ : MethodName)) (pc' := 22) C X106 (tw hw 204 rfl) (tw hw 205 rfl) (by decide) (rm_rn l Z a0 hw d h106 O112 ) (tw hw 207 rfl) (tw hw 206 rfl) e106 (argsL := [(.ref d)]) (rest := [(.int (1 : Int32)), (.ref b101)]) (W := 2) rfl rfl pd_8 rfl (Nat.le_of_eq rfl) rfl (by decide) (by decide) (by decide) (by decide) d29_19 rfl ?_
  intro T111 v111 L111 X111 q111
  obtain ⟨rfl, rfl, e111⟩ := q111
  have N111 := Fr.app N106 (Fr.nil _)
  have c114 : Exa Z h106 d "com/example/tranche/tranche/journal/DefaultRateChange" := (Exa.wr W106 c107)
  refine Go.stR (i := 1) (vs' := [(.ref d), (.ref d), .null, .null, .null]) (pc' := 23) C X111 e111 A106 (by decide) (by decide) (by simp) rfl (AL.sto A106 O101v (Ins.of_exa c114 (tw hw 149 rfl))) rfl d29_22 rfl ?_
  intro T113 h113 X113 e113 W113 A113
  have N113 := Fr.snoc X113 N111 n_b101
  refine Go.iinc (Ls' := #[.val (.ref v), .val (.ref b101), .val (.int ((1 : Int32) + (1 : Int32)))]) (z := (1 : Int32)) (pc' := 26) C X113 d29_23 rfl rfl rfl rfl ?_
  rw [show ((1 : Int32) + (1 : Int32)) = (2 : Int32) from by decide]
  refine Go.goto (pc' := 8) C X113 d29_26 (by decide) (by decide) ?_
  refine Go.iloadN (pc' := 9) C X113 d29_8 rfl rfl ?_
  refine Go.aloadN (pc' := 10) C X113 d29_9 rfl rfl rfl ?_
  have c115 : AL Z h113 v kv (.object "java/lang/Object") [(.ref d), (.ref d), (.ref d), (.ref d), (.ref d)] := (AL.other W113 c109 ne108)
  refine Go.alen (z := (5 : Int32)) (pc' := 11) C X113 e113 c115 rfl d29_10 rfl ?_
  refine Go.icmpNo (pc' := 14) C X113 d29_11 (tlt (x := (2 : Int32)) (y := (5 : Int32)) (by decide)).2.1 rfl ?_
  refine Go.aloadN (pc' := 15) C X113 d29_14 rfl rfl rfl ?_
  refine Go.iloadN (pc' := 16) C X113 d29_15 rfl rfl ?_
  refine Go.aloadN (pc' := 17) C X113 d29_16 rfl rfl rfl ?_
  refine Go.iloadN (pc' := 18) C X113 d29_17 rfl rfl ?_
  refine Go.ldR (i := 2) (v := (.ref d)) (pc' := 19) C X113 e113 c115 (by decide) (by decide) rfl rfl d29_18 rfl ?_
  have O118 : Ext Z.heap h113 := (Ext.wr O112 W113 n_b101)
  refine Go.callS (y := (⟨"java/util/Objects", "requireNonNull", "(Ljava/lang/Object;)Ljava/lang/Object;"⟩ : MethodName)) (pc' := 22) C X113 (tw hw 204 rfl) (tw hw 205 rfl) (by decide) (rm_rn l Z a0 hw d h113 O118 ) (tw hw 207 rfl) (tw hw 206 rfl) e113 (argsL := [(.ref d)]) (rest := [(.int (2 : Int32)), (.ref b101)]) (W := 2) rfl rfl pd_8 rfl (Nat.le_of_eq rfl) rfl (by decide) (by decide) (by decide) (by decide) d29_19 rfl ?_
  intro T117 v117 L117 X117 q117
  obtain ⟨rfl, rfl, e117⟩ := q117
  have N117 := Fr.app N113 (Fr.nil _)
  have c120 : Exa Z h113 d "com/example/tranche/tranche/journal/DefaultRateChange" := (Exa.wr W113 c114)
  refine Go.stR (i := 2) (vs' := [(.ref d), (.ref d), (.ref d), .null, .null]) (pc' := 23) C X117 e117 A113 (by decide) (by decide) (by simp) rfl (AL.sto A113 O101v (Ins.of_exa c120 (tw hw 149 rfl))) rfl d29_22 rfl ?_
  intro T119 h119 X119 e119 W119 A119
  have N119 := Fr.snoc X119 N117 n_b101
  refine Go.iinc (Ls' := #[.val (.ref v), .val (.ref b101), .val (.int ((2 : Int32) + (1 : Int32)))]) (z := (1 : Int32)) (pc' := 26) C X119 d29_23 rfl rfl rfl rfl ?_
  rw [show ((2 : Int32) + (1 : Int32)) = (3 : Int32) from by decide]
  refine Go.goto (pc' := 8) C X119 d29_26 (by decide) (by decide) ?_
  refine Go.iloadN (pc' := 9) C X119 d29_8 rfl rfl ?_
  refine Go.aloadN (pc' := 10) C X119 d29_9 rfl rfl rfl ?_
  have c121 : AL Z h119 v kv (.object "java/lang/Object") [(.ref d), (.ref d), (.ref d), (.ref d), (.ref d)] := (AL.other W119 c115 ne108)
  refine Go.alen (z := (5 : Int32)) (pc' := 11) C X119 e119 c121 rfl d29_10 rfl ?_
  refine Go.icmpNo (pc' := 14) C X119 d29_11 (tlt (x := (3 : Int32)) (y := (5 : Int32)) (by decide)).2.1 rfl ?_
  refine Go.aloadN (pc' := 15) C X119 d29_14 rfl rfl rfl ?_
  refine Go.iloadN (pc' := 16) C X119 d29_15 rfl rfl ?_
  refine Go.aloadN (pc' := 17) C X119 d29_16 rfl rfl rfl ?_
  refine Go.iloadN (pc' := 18) C X119 d29_17 rfl rfl ?_
  refine Go.ldR (i := 3) (v := (.ref d)) (pc' := 19) C X119 e119 c121 (by decide) (by decide) rfl rfl d29_18 rfl ?_
  have O124 : Ext Z.heap h119 := (Ext.wr O118 W119 n_b101)
  refine Go.callS (y := (⟨"java/util/Objects", "requireNonNull", "(Ljava/lang/Object;)Ljava/lang/Object;"⟩ : MethodName)) (pc' := 22) C X119 (tw hw 204 rfl) (tw hw 205 rfl) (by decide) (rm_rn l Z a0 hw d h119 O124 ) (tw hw 207 rfl) (tw hw 206 rfl) e119 (argsL := [(.ref d)]) (rest := [(.int (3 : Int32)), (.ref b101)]) (W := 2) rfl rfl pd_8 rfl (Nat.le_of_eq rfl) rfl (by decide) (by decide) (by decide) (by decide) d29_19 rfl ?_
  intro T123 v123 L123 X123 q123
  obtain ⟨rfl, rfl, e123⟩ := q123
  have N123 := Fr.app N119 (Fr.nil _)
  have c126 : Exa Z h119 d "com/example/tranche/tranche/journal/DefaultRateChange" := (Exa.wr W119 c120)
  refine Go.stR (i := 3) (vs' := [(.ref d), (.ref d), (.ref d), (.ref d), .null]) (pc' := 23) C X123 e123 A119 (by decide) (by decide) (by simp) rfl (AL.sto A119 O101v (Ins.of_exa c126 (tw hw 149 rfl))) rfl d29_22 rfl ?_
  intro T125 h125 X125 e125 W125 A125
  have N125 := Fr.snoc X125 N123 n_b101
  refine Go.iinc (Ls' := #[.val (.ref v), .val (.ref b101), .val (.int ((3 : Int32) + (1 : Int32)))]) (z := (1 : Int32)) (pc' := 26) C X125 d29_23 rfl rfl rfl rfl ?_
  rw [show ((3 : Int32) + (1 : Int32)) = (4 : Int32) from by decide]
  refine Go.goto (pc' := 8) C X125 d29_26 (by decide) (by decide) ?_
  refine Go.iloadN (pc' := 9) C X125 d29_8 rfl rfl ?_
  refine Go.aloadN (pc' := 10) C X125 d29_9 rfl rfl rfl ?_
  have c127 : AL Z h125 v kv (.object "java/lang/Object") [(.ref d), (.ref d), (.ref d), (.ref d), (.ref d)] := (AL.other W125 c121 ne108)
  refine Go.alen (z := (5 : Int32)) (pc' := 11) C X125 e125 c127 rfl d29_10 rfl ?_
  refine Go.icmpNo (pc' := 14) C X125 d29_11 (tlt (x := (4 : Int32)) (y := (5 : Int32)) (by decide)).2.1 rfl ?_
  refine Go.aloadN (pc' := 15) C X125 d29_14 rfl rfl rfl ?_
  refine Go.iloadN (pc' := 16) C X125 d29_15 rfl rfl ?_
  refine Go.aloadN (pc' := 17) C X125 d29_16 rfl rfl rfl ?_
  refine Go.iloadN (pc' := 18) C X125 d29_17 rfl rfl ?_
  refine Go.ldR (i := 4) (v := (.ref d)) (pc' := 19) C X125 e125 c127 (by decide) (by decide) rfl rfl d29_18 rfl ?_
  have O130 : Ext Z.heap h125 := (Ext.wr O124 W125 n_b101)
  refine Go.callS (y := (⟨"java/util/Objects", "requireNonNull", "(Ljava/lang/Object;)Ljava/lang/Object;"⟩ : MethodName)) (pc' := 22) C X125 (tw hw 204 rfl) (tw hw 205 rfl) (by decide) (rm_rn l Z a0 hw d h125 O130 ) (tw hw 207 rfl) (tw hw 206 rfl) e125 (argsL := [(.ref d)]) (rest := [(.int (4 : Int32)), (.ref b101)]) (W := 2) rfl rfl pd_8 rfl (Nat.le_of_eq rfl) rfl (by decide) (by decide) (by decide) (by decide) d29_19 rfl ?_
  intro T129 v129 L129 X129 q129
  obtain ⟨rfl, rfl, e129⟩ := q129
  have N129 := Fr.app N125 (Fr.nil _)
  have c132 : Exa Z h125 d "com/example/tranche/tranche/journal/DefaultRateChange" := (Exa.wr W125 c126)
  refine Go.stR (i := 4) (vs' := [(.ref d), (.ref d), (.ref d), (.ref d), (.ref d)]) (pc' := 23) C X129 e129 A125 (by decide) (by decide) (by simp) rfl (AL.sto A125 O101v (Ins.of_exa c132 (tw hw 149 rfl))) rfl d29_22 rfl ?_
  intro T131 h131 X131 e131 W131 A131
  have N131 := Fr.snoc X131 N129 n_b101
  refine Go.iinc (Ls' := #[.val (.ref v), .val (.ref b101), .val (.int ((4 : Int32) + (1 : Int32)))]) (z := (1 : Int32)) (pc' := 26) C X131 d29_23 rfl rfl rfl rfl ?_
  rw [show ((4 : Int32) + (1 : Int32)) = (5 : Int32) from by decide]
  refine Go.goto (pc' := 8) C X131 d29_26 (by decide) (by decide) ?_
  refine Go.iloadN (pc' := 9) C X131 d29_8 rfl rfl ?_
  refine Go.aloadN (pc' := 10) C X131 d29_9 rfl rfl rfl ?_
  have c133 : AL Z h131 v kv (.object "java/lang/Object") [(.ref d), (.ref d), (.ref d), (.ref d), (.ref d)] := (AL.other W131 c127 ne108)
  refine Go.alen (z := (5 : Int32)) (pc' := 11) C X131 e131 c133 rfl d29_10 rfl ?_
  refine Go.icmpYes (pc' := 29) C X131 d29_11 (flt (x := (5 : Int32)) (y := (5 : Int32)) (by decide)).2.1 (by decide) (by decide) ?_
  have O136 : Ext Z.heap h131 := (Ext.wr O130 W131 n_b101)
  refine Go.newO (pc' := 32) C X131 (tw hw 99 rfl) (tw hw 208 rfl) (tw hw 163 rfl) e131 (by decide) (by decide) d29_29 rfl ?_
  intro T135 h135 b135 X135 e135 g135 E135 A135 D135
  have n_b135 : Z.heap.size ≤ b135 := Nat.le_trans O136.1 (Nat.le_of_eq g135.symm)
  have z_b135 : h0.size ≤ b135 := Nat.le_trans (Nat.le_trans (Nat.le_trans (Nat.le_trans (Nat.le_trans (Nat.le_trans (Nat.le_trans (Nat.le_refl _) E101.1) (Nat.le_of_eq W106.size.symm)) (Nat.le_of_eq W113.size.symm)) (Nat.le_of_eq W119.size.symm)) (Nat.le_of_eq W125.size.symm)) (Nat.le_of_eq W131.size.symm)) (Nat.le_of_eq g135.symm)
  have F135_elements : Fld Z h135 b135 "java/util/ImmutableCollections$ListN" "elements" "[Ljava/lang/Object;" .null := D135 (Or.inr (tw hw 166 rfl)) (ty := (.array (.object "java/lang/Object"))) (by decide)
  have F135_allowNulls : Fld Z h135 b135 "java/util/ImmutableCollections$ListN" "allowNulls" "Z" (.int (0 : Int32)) := D135 (Or.inr (tw hw 228 rfl)) (ty := .boolean) (by decide)
  refine Go.dup (pc' := 33) C X135 d29_32 rfl rfl ?_
  refine Go.aloadN (pc' := 34) C X135 d29_33 rfl rfl rfl ?_
  refine Go.iconst (z := (0 : Int32)) (pc' := 35) C X135 d29_34 rfl rfl ?_
  have O138 : Ext Z.heap h135 := (Ext.trans O136 E135)
  refine Go.callIN (y := (⟨"java/util/ImmutableCollections$ListN", "<init>", "([Ljava/lang/Object;Z)V"⟩ : MethodName)) (a := b135) (pc' := 38) C X135 rfl (tw hw 209 rfl) (tw hw 210 rfl) (by decide) (rm_lnI l Z a0 hw b135 b101 h135 O138 A135 F135_elements F135_allowNulls n_b135) (tw hw 212 rfl) (tw hw 163 rfl) e135 (argsL := [(.ref b101), (.int (0 : Int32))]) (rest := [(.ref b135)]) (W := 1) rfl rfl pd_13 rfl (Nat.le_of_eq rfl) rfl (by decide) (by decide) (by decide) (by decide) rfl d29_35 rfl ?_
  intro T137 v137 L137 X137 q137
  obtain ⟨rfl, N137q, K137, P137_0⟩ := q137
  have N137 := Fr.app N131 N137q
  have K139 : Keep h0 T137.heap [] := (((((((((Keep.refl h0 []).ext E101).wr W106 (Or.inr z_b101)).wr W113 (Or.inr z_b101)).wr W119 (Or.inr z_b101)).wr W125 (Or.inr z_b101)).wr W131 (Or.inr z_b101)).ext E135).trans K137 (allS (Or.inr z_b135) all0))
  have c140 : Exa Z T137.heap b135 "java/util/ImmutableCollections$ListN" := (Exa.keep A135 K137)
  have ne141 : b101 ≠ b135 := Nat.ne_of_lt (Nat.lt_of_lt_of_le A101.lt (Nat.le_trans (Nat.le_trans (Nat.le_trans (Nat.le_trans (Nat.le_trans (Nat.le_trans (Nat.le_refl _) (Nat.le_of_eq W106.size.symm)) (Nat.le_of_eq W113.size.symm)) (Nat.le_of_eq W119.size.symm)) (Nat.le_of_eq W125.size.symm)) (Nat.le_of_eq W131.size.symm)) (Nat.le_of_eq g135.symm)))
  have c142 : AL Z T137.heap b101 k101 (.object "java/lang/Object") [(.ref d), (.ref d), (.ref d), (.ref d), (.ref d)] := (AL.keep (AL.ext E135 A131) K137 (ninS ne141 nin0))
  exact Go.retA C X137 rfl d29_38 rfl rfl rfl ⟨b135, b101, k101, rfl, N137, K139, z_b135, z_b101, c140, P137_0, c142⟩ (by decide) (by decide)
def Q_lof5 (Z : State) (d : Addr) (v : Addr) (kv : ClassId) (h0 : Heap) (rv : Option Value) (h : Heap) (L : List Loc) : Prop := ∃ r : Addr, ∃ q : Addr, ∃ kq : ClassId, rv = some (.ref r) ∧ Fr Z.heap.size L ∧ Keep h0 h [] ∧ h0.size ≤ r ∧ h0.size ≤ q ∧ Exa Z h r "java/util/ImmutableCollections$ListN" ∧ Fld Z h r "java/util/ImmutableCollections$ListN" "elements" "[Ljava/lang/Object;" (.ref q) ∧ AL Z h q kq (.object "java/lang/Object") [(.ref d), (.ref d), (.ref d), (.ref d), (.ref d)]
set_option maxRecDepth 65536 in
set_option maxHeartbeats 40000000 in
theorem rm_lof5 (l : Launch) (Z : State) (a0 : Array Value) (hw : ∀ d ∈ tables_1, d.before a0 Z = true) (d : Addr) (v : Addr) (kv : ClassId) (h0 : Heap) (O0 : Ext Z.heap h0) (Av : AL Z h0 v kv (.object "java/lang/Object") [(.ref d), (.ref d), (.ref d), (.ref d), (.ref d)]) (Ed : Exa Z h0 d "com/example/tranche/tranche/journal/DefaultRateChange") :
    Met1 l Z (⟨"java/util/List", "of", "([Ljava/lang/Object;)Ljava/util/List;"⟩ : MethodName) jdk_40_method_47_code 2 (some (.object "java/util/List")) ({ frames := 6, cells := 2, slots := 7, locals := 77 } : Room) #[(.ref v)] h0 (Q_lof5 Z d v kv h0) := by
  refine Met1.of_body (Ls := #[.val (.ref v), .unset]) pf_28 (fun m => by first | (simp [entryFrame, mkF, argsToLocals, Value.category]; done) | rfl) ?_
  intro p e s m below meth c T0 C X0 e0
  have N0 : Fr Z.heap.size [] := Fr.nil _
  refine Go.aloadN (pc' := 1) C X0 d28_0 rfl rfl rfl ?_
  refine Go.alen (z := (5 : Int32)) (pc' := 2) C X0 e0 Av rfl d28_1 rfl ?_
  refine Go.tswOut (pc' := 59) C X0 d28_2 (by decide) (by decide) (by decide) ?_
  refine Go.aloadN (pc' := 60) C X0 d28_59 rfl rfl rfl ?_
  refine Go.callS (y := (⟨"java/util/ImmutableCollections", "listFromArray", "([Ljava/lang/Object;)Ljava/util/List;"⟩ : MethodName)) (pc' := 63) C X0 (tw hw 200 rfl) (tw hw 201 rfl) (by decide) (rm_lfa5 l Z a0 hw d v kv h0 O0 Av Ed) (tw hw 202 rfl) (tw hw 92 rfl) e0 (argsL := [(.ref v)]) (rest := []) (W := 0) rfl rfl pd_14 rfl (Nat.le_of_eq rfl) rfl (by decide) (by decide) (by decide) (by decide) d28_60 rfl ?_
  intro T101 v101 L101 X101 q101
  obtain ⟨r_101, q_101, kq_101, rfl, N101q, K101, B101_0, B101_1, P101_0, P101_1, P101_2⟩ := q101
  have N101 := Fr.app N0 N101q
  have n_r_101 : Z.heap.size ≤ r_101 := Nat.le_trans O0.1 B101_0
  have z_r_101 : h0.size ≤ r_101 := Nat.le_trans (Nat.le_refl _) B101_0
  have n_q_101 : Z.heap.size ≤ q_101 := Nat.le_trans O0.1 B101_1
  have z_q_101 : h0.size ≤ q_101 := Nat.le_trans (Nat.le_refl _) B101_1
  have K102 : Keep h0 T101.heap [] := ((Keep.refl h0 []).trans K101 all0)
  exact Go.retA C X101 rfl d28_63 rfl rfl rfl ⟨r_101, q_101, kq_101, rfl, N101, K102, z_r_101, z_q_101, P101_0, P101_1, P101_2⟩ (by decide) (by decide)
def Q_emp6 (Z : State) (r : Addr) (h0 : Heap) (rv : Option Value) (h : Heap) (L : List Loc) : Prop := rv = some (.int (0 : Int32)) ∧ L = [] ∧ h = h0
set_option maxRecDepth 65536 in
set_option maxHeartbeats 40000000 in
theorem rm_emp6 (l : Launch) (Z : State) (a0 : Array Value) (hw : ∀ d ∈ tables_1, d.before a0 Z = true) (r : Addr) (h0 : Heap) (O0 : Ext Z.heap h0) (F3 : Fld Z h0 r "java/util/ArrayList" "size" "I" (.int (6 : Int32))) :
    Met1 l Z (⟨"java/util/ArrayList", "isEmpty", "()Z"⟩ : MethodName) jdk_38_method_9_code 1 (some .boolean) ({ frames := 0, cells := 0, slots := 0, locals := 0 } : Room) #[(.ref r)] h0 (Q_emp6 Z r h0) := by
  refine Met1.of_body (Ls := #[.val (.ref r)]) pf_15 (fun m => by first | (simp [entryFrame, mkF, argsToLocals, Value.category]; done) | rfl) ?_
  intro p e s m below meth c T0 C X0 e0
  have N0 : Fr Z.heap.size [] := Fr.nil _
  refine Go.aloadN (pc' := 1) C X0 d15_0 rfl rfl rfl ?_
  refine Go.getF (pc' := 4) (host := "") C X0 (Or.inl (tw hw 109 rfl)) Via.refl e0 F3 d15_1 rfl ?_
  intro T101 X101 e101
  refine Go.ifYes (pc' := 11) C X101 d15_4 ((if0 _ _).trans (feq (x := (6 : Int32)) (y := (0 : Int32)) (by decide)).2) (by decide) (by decide) ?_
  refine Go.iconst (z := (0 : Int32)) (pc' := 12) C X101 d15_11 rfl rfl ?_
  exact Go.retN C X101 rfl d15_12 (by simp) (by rw [e101]; exact ⟨rfl, rfl, rfl⟩) (by decide) (by decide)
def Q_mn6 (Z : State)  (h0 : Heap) (rv : Option Value) (h : Heap) (L : List Loc) : Prop := rv = some (.int (6 : Int32)) ∧ L = [] ∧ h = h0
set_option maxRecDepth 65536 in
set_option maxHeartbeats 40000000 in
theorem rm_mn6 (l : Launch) (Z : State) (a0 : Array Value) (hw : ∀ d ∈ tables_1, d.before a0 Z = true)  (h0 : Heap) (O0 : Ext Z.heap h0) :
    Met1 l Z (⟨"java/lang/Math", "min", "(II)I"⟩ : MethodName) jdk_29_method_69_code 2 (some .int) ({ frames := 0, cells := 0, slots := 0, locals := 0 } : Room) #[(.int (10 : Int32)), (.int (6 : Int32))] h0 (Q_mn6 Z  h0) := by
  refine Met1.of_body (Ls := #[.val (.int (10 : Int32)), .val (.int (6 : Int32))]) pf_27 (fun m => by first | (simp [entryFrame, mkF, argsToLocals, Value.category]; done) | rfl) ?_
  intro p e s m below meth c T0 C X0 e0
  have N0 : Fr Z.heap.size [] := Fr.nil _
  refine Go.iloadN (pc' := 1) C X0 d27_0 rfl rfl ?_
  refine Go.iloadN (pc' := 2) C X0 d27_1 rfl rfl ?_
  refine Go.icmpYes (pc' := 9) C X0 d27_2 (tlt (x := (6 : Int32)) (y := (10 : Int32)) (by decide)).2.2.1 (by decide) (by decide) ?_
  refine Go.iloadN (pc' := 10) C X0 d27_9 rfl rfl ?_
  exact Go.retI C X0 rfl d27_10 (by rw [e0]; exact ⟨rfl, rfl, rfl⟩) (by decide) (by decide)
def Q_cpc6 (Z : State) (d : Addr) (w : Addr) (kw : ClassId) (mr : Addr) (h0 : Heap) (rv : Option Value) (h : Heap) (L : List Loc) : Prop := ∃ v : Addr, ∃ kv : ClassId, rv = some (.ref v) ∧ Fr Z.heap.size L ∧ Keep h0 h [] ∧ h0.size ≤ v ∧ AL Z h v kv (.object "java/lang/Object") [(.ref d), (.ref d), (.ref d), (.ref d), (.ref d), (.ref d)]
set_option maxRecDepth 65536 in
set_option maxHeartbeats 40000000 in
theorem rm_cpc6 (l : Launch) (Z : State) (a0 : Array Value) (hw : ∀ d ∈ tables_1, d.before a0 Z = true) (d : Addr) (w : Addr) (kw : ClassId) (mr : Addr) (h0 : Heap) (O0 : Ext Z.heap h0) (Ew : Exa Z h0 w "[Ljava/lang/Object;") (Aw : AL Z h0 w kw (.object "java/lang/Object") [(.ref d), (.ref d), (.ref d), (.ref d), (.ref d), (.ref d), .null, .null, .null, .null]) (Ed : Exa Z h0 d "com/example/tranche/tranche/journal/DefaultRateChange") (hM : Mir Z "[Ljava/lang/Object;" mr) :
    Met1 l Z (⟨"java/util/Arrays", "copyOf", "([Ljava/lang/Object;ILjava/lang/Class;)[Ljava/lang/Object;"⟩ : MethodName) jdk_65_method_120_code 4 (some (.array (.object "java/lang/Object"))) ({ frames := 1, cells := 1, slots := 6, locals := 18 } : Room) #[(.ref w), (.int (6 : Int32)), (.ref mr)] h0 (Q_cpc6 Z d w kw mr h0) := by
  refine Met1.of_body (Ls := #[.val (.ref w), .val (.int (6 : Int32)), .val (.ref mr), .unset]) pf_26 (fun m => by first | (simp [entryFrame, mkF, argsToLocals, Value.category]; done) | rfl) ?_
  intro p e s m below meth c T0 C X0 e0
  have N0 : Fr Z.heap.size [] := Fr.nil _
  refine Go.aloadN (pc' := 1) C X0 d26_0 rfl rfl rfl ?_
  refine Go.ldcM (pc' := 3) C X0 (tw hw 188 rfl) e0 hM d26_1 rfl ?_
  intro T101 X101 e101
  refine Go.acmpNo (pc' := 6) C X101 d26_3 rfl rfl (XT.aa_ne_f rfl) rfl ?_
  refine Go.iloadN (pc' := 7) C X101 d26_6 rfl rfl ?_
  refine Go.newR (cap := 6) (vs := [.null, .null, .null, .null, .null, .null]) (ad := "[Ljava/lang/Object;") (pc' := 10) C X101 (by decide) (tw hw 189 rfl) (tw hw 148 rfl) e101 (by decide) (by decide) (by decide) (by decide) (by decide) rfl d26_7 rfl ?_
  intro T102 h102 b102 k102 X102 e102 g102 E102 A102 Ea102 O102v
  have n_b102 : Z.heap.size ≤ b102 := Nat.le_trans O0.1 (Nat.le_of_eq g102.symm)
  have z_b102 : h0.size ≤ b102 := Nat.le_trans (Nat.le_refl _) (Nat.le_of_eq g102.symm)
  have A102 : AL Z h102 b102 k102 (.object "java/lang/Object") [.null, .null, .null, .null, .null, .null] := A102
  refine Go.goto (pc' := 24) C X102 d26_10 (by decide) (by decide) ?_
  refine Go.astoreN (Ls' := #[.val (.ref w), .val (.int (6 : Int32)), .val (.ref mr), .val (.ref b102)]) (pc' := 25) C X102 d26_24 rfl rfl rfl ?_
  refine Go.aloadN (pc' := 26) C X102 d26_25 rfl rfl rfl ?_
  refine Go.iconst (z := (0 : Int32)) (pc' := 27) C X102 d26_26 rfl rfl ?_
  refine Go.aloadN (pc' := 28) C X102 d26_27 rfl rfl rfl ?_
  refine Go.iconst (z := (0 : Int32)) (pc' := 29) C X102 d26_28 rfl rfl ?_
  refine Go.aloadN (pc' := 30) C X102 d26_29 rfl rfl rfl ?_
  have c103 : AL Z h102 w kw (.object "java/lang/Object") [(.ref d), (.ref d), (.ref d), (.ref d), (.ref d), (.ref d), .null, .null, .null, .null] := (AL.ext E102 Aw)
  refine Go.alen (z := (10 : Int32)) (pc' := 31) C X102 e102 c103 rfl d26_30 rfl ?_
  refine Go.iloadN (pc' := 32) C X102 d26_31 rfl rfl ?_
  have O105 : Ext Z.heap h102 := (Ext.trans O0 E102)
  refine Go.callS (y := (⟨"java/lang/Math", "min", "(II)I"⟩ : MethodName)) (pc' := 35) C X102 (tw hw 190 rfl) (tw hw 191 rfl) (by decide) (rm_mn6 l Z a0 hw  h102 O105 ) (tw hw 192 rfl) (tw hw 145 rfl) e102 (argsL := [(.int (10 : Int32)), (.int (6 : Int32))]) (rest := [(.int (0 : Int32)), (.ref b102), (.int (0 : Int32)), (.ref w)]) (W := 4) rfl rfl pd_4 rfl (Nat.le_of_eq rfl) rfl (by decide) (by decide) (by decide) (by decide) d26_32 rfl ?_
  intro T104 v104 L104 X104 q104
  obtain ⟨rfl, rfl, e104⟩ := q104
  have N104 := Fr.app N0 (Fr.nil _)
  have c107 : Exa Z h102 d "com/example/tranche/tranche/journal/DefaultRateChange" := (Exa.ext E102 Ed)
  refine Go.arrcopy (i := 0) (j := 0) (n := 6) (vd' := [(.ref d), (.ref d), (.ref d), (.ref d), (.ref d), (.ref d)]) (W := 0) (n0 := Z.heap.size) (pc' := 38) C X104 (tw hw 193 rfl) (tw hw 196 rfl) (tw hw 194 rfl) (tw hw 195 rfl) e104 c103 A102 (by simp [fits]) (by simp [fits]) (by simp) (by simp) (Or.inr ⟨rfl, rfl, ⟨(AL.sto A102 O102v (Ins.of_exa c107 (tw hw 149 rfl))), ⟨(AL.sto A102 O102v (Ins.of_exa c107 (tw hw 149 rfl))), ⟨(AL.sto A102 O102v (Ins.of_exa c107 (tw hw 149 rfl))), ⟨(AL.sto A102 O102v (Ins.of_exa c107 (tw hw 149 rfl))), ⟨(AL.sto A102 O102v (Ins.of_exa c107 (tw hw 149 rfl))), ⟨(AL.sto A102 O102v (Ins.of_exa c107 (tw hw 149 rfl))), trivial⟩⟩⟩⟩⟩⟩⟩) (by decide) (by decide) (by decide) (by decide) (by decide) (by decide) (by simp) (by simp) rfl N104 n_b102 rfl (by decide) (Nat.le_of_eq rfl) (by decide) d26_35 rfl ?_
  intro T106 h106 L106 X106 e106 N106 K106 A106
  refine Go.aloadN (pc' := 39) C X106 d26_38 rfl rfl rfl ?_
  have K108 : Keep h0 h106 [] := (((Keep.refl h0 []).ext E102).trans K106 (allS (Or.inr z_b102) all0))
  exact Go.retA C X106 rfl d26_39 rfl rfl rfl (by rw [e106]; exact ⟨b102, k102, rfl, N106, K108, z_b102, A106⟩) (by decide) (by decide)
def Q_cp6 (Z : State) (d : Addr) (w : Addr) (kw : ClassId) (mr : Addr) (h0 : Heap) (rv : Option Value) (h : Heap) (L : List Loc) : Prop := ∃ v : Addr, ∃ kv : ClassId, rv = some (.ref v) ∧ Fr Z.heap.size L ∧ Keep h0 h [] ∧ h0.size ≤ v ∧ AL Z h v kv (.object "java/lang/Object") [(.ref d), (.ref d), (.ref d), (.ref d), (.ref d), (.ref d)]
set_option maxRecDepth 65536 in
set_option maxHeartbeats 40000000 in
theorem rm_cp6 (l : Launch) (Z : State) (a0 : Array Value) (hw : ∀ d ∈ tables_1, d.before a0 Z = true) (d : Addr) (w : Addr) (kw : ClassId) (mr : Addr) (h0 : Heap) (O0 : Ext Z.heap h0) (Ew : Exa Z h0 w "[Ljava/lang/Object;") (Aw : AL Z h0 w kw (.object "java/lang/Object") [(.ref d), (.ref d), (.ref d), (.ref d), (.ref d), (.ref d), .null, .null, .null, .null]) (Ed : Exa Z h0 d "com/example/tranche/tranche/journal/DefaultRateChange") (hM : Mir Z "[Ljava/lang/Object;" mr) :
    Met1 l Z (⟨"java/util/Arrays", "copyOf", "([Ljava/lang/Object;I)[Ljava/lang/Object;"⟩ : MethodName) jdk_65_method_119_code 2 (some (.array (.object "java/lang/Object"))) ({ frames := 2, cells := 1, slots := 6, locals := 33 } : Room) #[(.ref w), (.int (6 : Int32))] h0 (Q_cp6 Z d w kw mr h0) := by
  refine Met1.of_body (Ls := #[.val (.ref w), .val (.int (6 : Int32))]) pf_25 (fun m => by first | (simp [entryFrame, mkF, argsToLocals, Value.category]; done) | rfl) ?_
  intro p e s m below meth c T0 C X0 e0
  have N0 : Fr Z.heap.size [] := Fr.nil _
  refine Go.aloadN (pc' := 1) C X0 d25_0 rfl rfl rfl ?_
  refine Go.iloadN (pc' := 2) C X0 d25_1 rfl rfl ?_
  refine Go.aloadN (pc' := 3) C X0 d25_2 rfl rfl rfl ?_
  refine Go.gcls (W := 2) (pc' := 6) C X0 (tw hw 179 rfl) (tw hw 180 rfl) (tw hw 98 rfl) (tw hw 182 rfl) (tw hw 181 rfl) (tw hw 183 rfl) e0 Ew hM rfl (by decide) (Nat.le_of_eq rfl) (by decide) d25_3 rfl ?_
  intro T101 X101 e101
  refine Go.callS (y := (⟨"java/util/Arrays", "copyOf", "([Ljava/lang/Object;ILjava/lang/Class;)[Ljava/lang/Object;"⟩ : MethodName)) (pc' := 9) C X101 (tw hw 185 rfl) (tw hw 186 rfl) (by decide) (rm_cpc6 l Z a0 hw d w kw mr h0 O0 Ew Aw Ed hM) (tw hw 187 rfl) (tw hw 177 rfl) e101 (argsL := [(.ref w), (.int (6 : Int32)), (.ref mr)]) (rest := []) (W := 0) rfl rfl pd_9 rfl (Nat.le_of_eq rfl) rfl (by decide) (by decide) (by decide) (by decide) d25_6 rfl ?_
  intro T102 v102 L102 X102 q102
  obtain ⟨v_102, kv_102, rfl, N102q, K102, B102_0, P102_0⟩ := q102
  have N102 := Fr.app N0 N102q
  have n_v_102 : Z.heap.size ≤ v_102 := Nat.le_trans O0.1 B102_0
  have z_v_102 : h0.size ≤ v_102 := Nat.le_trans (Nat.le_refl _) B102_0
  have K103 : Keep h0 T102.heap [] := ((Keep.refl h0 []).trans K102 all0)
  exact Go.retA C X102 rfl d25_9 rfl rfl rfl ⟨v_102, kv_102, rfl, N102, K103, z_v_102, P102_0⟩ (by decide) (by decide)
def Q_ta6 (Z : State) (r : Addr) (d : Addr) (w : Addr) (kw : ClassId) (mr : Addr) (h0 : Heap) (rv : Option Value) (h : Heap) (L : List Loc) : Prop := ∃ v : Addr, ∃ kv : ClassId, rv = some (.ref v) ∧ Fr Z.heap.size L ∧ Keep h0 h [] ∧ h0.size ≤ v ∧ AL Z h v kv (.object "java/lang/Object") [(.ref d), (.ref d), (.ref d), (.ref d), (.ref d), (.ref d)]
set_option maxRecDepth 65536 in
set_option maxHeartbeats 40000000 in
theorem rm_ta6 (l : Launch) (Z : State) (a0 : Array Value) (hw : ∀ d ∈ tables_1, d.before a0 Z = true) (r : Addr) (d : Addr) (w : Addr) (kw : ClassId) (mr : Addr) (h0 : Heap) (O0 : Ext Z.heap h0) (F2 : Fld Z h0 r "java/util/ArrayList" "elementData" "[Ljava/lang/Object;" (.ref w)) (F3 : Fld Z h0 r "java/util/ArrayList" "size" "I" (.int (6 : Int32))) (Ew : Exa Z h0 w "[Ljava/lang/Object;") (Aw : AL Z h0 w kw (.object "java/lang/Object") [(.ref d), (.ref d), (.ref d), (.ref d), (.ref d), (.ref d), .null, .null, .null, .null]) (Ed : Exa Z h0 d "com/example/tranche/tranche/journal/DefaultRateChange") (hM : Mir Z "[Ljava/lang/Object;" mr) :
    Met1 l Z (⟨"java/util/ArrayList", "toArray", "()[Ljava/lang/Object;"⟩ : MethodName) jdk_38_method_16_code 1 (some (.array (.object "java/lang/Object"))) ({ frames := 3, cells := 1, slots := 6, locals := 46 } : Room) #[(.ref r)] h0 (Q_ta6 Z r d w kw mr h0) := by
  refine Met1.of_body (Ls := #[.val (.ref r)]) pf_24 (fun m => by first | (simp [entryFrame, mkF, argsToLocals, Value.category]; done) | rfl) ?_
  intro p e s m below meth c T0 C X0 e0
  have N0 : Fr Z.heap.size [] := Fr.nil _
  refine Go.aloadN (pc' := 1) C X0 d24_0 rfl rfl rfl ?_
  refine Go.getF (pc' := 4) (host := "") C X0 (Or.inl (tw hw 77 rfl)) Via.refl e0 F2 d24_1 rfl ?_
  intro T101 X101 e101
  refine Go.aloadN (pc' := 5) C X101 d24_4 rfl rfl rfl ?_
  refine Go.getF (pc' := 8) (host := "") C X101 (Or.inl (tw hw 109 rfl)) Via.refl e101 F3 d24_5 rfl ?_
  intro T102 X102 e102
  refine Go.callS (y := (⟨"java/util/Arrays", "copyOf", "([Ljava/lang/Object;I)[Ljava/lang/Object;"⟩ : MethodName)) (pc' := 11) C X102 (tw hw 175 rfl) (tw hw 176 rfl) (by decide) (rm_cp6 l Z a0 hw d w kw mr h0 O0 Ew Aw Ed hM) (tw hw 178 rfl) (tw hw 177 rfl) e102 (argsL := [(.ref w), (.int (6 : Int32))]) (rest := []) (W := 0) rfl rfl pd_10 rfl (Nat.le_of_eq rfl) rfl (by decide) (by decide) (by decide) (by decide) d24_8 rfl ?_
  intro T103 v103 L103 X103 q103
  obtain ⟨v_103, kv_103, rfl, N103q, K103, B103_0, P103_0⟩ := q103
  have N103 := Fr.app N0 N103q
  have n_v_103 : Z.heap.size ≤ v_103 := Nat.le_trans O0.1 B103_0
  have z_v_103 : h0.size ≤ v_103 := Nat.le_trans (Nat.le_refl _) B103_0
  have K104 : Keep h0 T103.heap [] := ((Keep.refl h0 []).trans K103 all0)
  exact Go.retA C X103 rfl d24_11 rfl rfl rfl ⟨v_103, kv_103, rfl, N103, K104, z_v_103, P103_0⟩ (by decide) (by decide)
def Q_lfa6 (Z : State) (d : Addr) (v : Addr) (kv : ClassId) (h0 : Heap) (rv : Option Value) (h : Heap) (L : List Loc) : Prop := ∃ r : Addr, ∃ q : Addr, ∃ kq : ClassId, rv = some (.ref r) ∧ Fr Z.heap.size L ∧ Keep h0 h [] ∧ h0.size ≤ r ∧ h0.size ≤ q ∧ Exa Z h r "java/util/ImmutableCollections$ListN" ∧ Fld Z h r "java/util/ImmutableCollections$ListN" "elements" "[Ljava/lang/Object;" (.ref q) ∧ AL Z h q kq (.object "java/lang/Object") [(.ref d), (.ref d), (.ref d), (.ref d), (.ref d), (.ref d)]
set_option maxRecDepth 65536 in
set_option maxHeartbeats 40000000 in
theorem rm_lfa6 (l : Launch) (Z : State) (a0 : Array Value) (hw : ∀ d ∈ tables_1, d.before a0 Z = true) (d : Addr) (v : Addr) (kv : ClassId) (h0 : Heap) (O0 : Ext Z.heap h0) (Av : AL Z h0 v kv (.object "java/lang/Object") [(.ref d), (.ref d), (.ref d), (.ref d), (.ref d), (.ref d)]) (Ed : Exa Z h0 d "com/example/tranche/tranche/journal/DefaultRateChange") :
    Met1 l Z (⟨"java/util/ImmutableCollections", "listFromArray", "([Ljava/lang/Object;)Ljava/util/List;"⟩ : MethodName) jdk_56_method_4_code 3 (some (.object "java/util/List")) ({ frames := 5, cells := 2, slots := 8, locals := 63 } : Room) #[(.ref v)] h0 (Q_lfa6 Z d v kv h0) := by
  refine Met1.of_body (Ls := #[.val (.ref v), .unset, .unset]) pf_29 (fun m => by first | (simp [entryFrame, mkF, argsToLocals, Value.category]; done) | rfl) ?_
  intro p e s m below meth c T0 C X0 e0
  have N0 : Fr Z.heap.size [] := Fr.nil _
  refine Go.aloadN (pc' := 1) C X0 d29_0 rfl rfl rfl ?_
  refine Go.alen (z := (6 : Int32)) (pc' := 2) C X0 e0 Av rfl d29_1 rfl ?_
  refine Go.newR (cap := 6) (vs := [.null, .null, .null, .null, .null, .null]) (ad := "[Ljava/lang/Object;") (pc' := 5) C X0 (by decide) (tw hw 203 rfl) (tw hw 148 rfl) e0 (by decide) (by decide) (by decide) (by decide) (by decide) rfl d29_2 rfl ?_
  intro T101 h101 b101 k101 X101 e101 g101 E101 A101 Ea101 O101v
  have n_b101 : Z.heap.size ≤ b101 := Nat.le_trans O0.1 (Nat.le_of_eq g101.symm)
  have z_b101 : h0.size ≤ b101 := Nat.le_trans (Nat.le_refl _) (Nat.le_of_eq g101.symm)
  have A101 : AL Z h101 b101 k101 (.object "java/lang/Object") [.null, .null, .null, .null, .null, .null] := A101
  refine Go.astoreN (Ls' := #[.val (.ref v), .val (.ref b101), .unset]) (pc' := 6) C X101 d29_5 rfl rfl rfl ?_
  refine Go.iconst (z := (0 : Int32)) (pc' := 7) C X101 d29_6 rfl rfl ?_
  refine Go.istoreN (Ls' := #[.val (.ref v), .val (.ref b101), .val (.int (0 : Int32))]) (pc' := 8) C X101 d29_7 rfl rfl ?_
  refine Go.iloadN (pc' := 9) C X101 d29_8 rfl rfl ?_
  refine Go.aloadN (pc' := 10) C X101 d29_9 rfl rfl rfl ?_
  have c102 : AL Z h101 v kv (.object "java/lang/Object") [(.ref d), (.ref d), (.ref d), (.ref d), (.ref d), (.ref d)] := (AL.ext E101 Av)
  refine Go.alen (z := (6 : Int32)) (pc' := 11) C X101 e101 c102 rfl d29_10 rfl ?_
  refine Go.icmpNo (pc' := 14) C X101 d29_11 (tlt (x := (0 : Int32)) (y := (6 : Int32)) (by decide)).2.1 rfl ?_
  refine Go.aloadN (pc' := 15) C X101 d29_14 rfl rfl rfl ?_
  refine Go.iloadN (pc' := 16) C X101 d29_15 rfl rfl ?_
  refine Go.aloadN (pc' := 17) C X101 d29_16 rfl rfl rfl ?_
  refine Go.iloadN (pc' := 18) C X101 d29_17 rfl rfl ?_
  refine Go.ldR (i := 0) (v := (.ref d)) (pc' := 19) C X101 e101 c102 (by decide) (by decide) rfl rfl d29_18 rfl ?_
  have O105 : Ext Z.heap h101 := (Ext.trans O0 E101)
  refine Go.callS (y := (⟨"java/util/Objects", "requireNonNull", "(Ljava/lang/Object;)Ljava/lang/Object;"⟩ : MethodName)) (pc' := 22) C X101 (tw hw 204 rfl) (tw hw 205 rfl) (by decide) (rm_rn l Z a0 hw d h101 O105 ) (tw hw 207 rfl) (tw hw 206 rfl) e101 (argsL := [(.ref d)]) (rest := [(.int (0 : Int32)), (.ref b101)]) (W := 2) rfl rfl pd_8 rfl (Nat.le_of_eq rfl) rfl (by decide) (by decide) (by decide) (by decide) d29_19 rfl ?_
  intro T104 v104 L104 X104 q104
  obtain ⟨rfl, rfl, e104⟩ := q104
  have N104 := Fr.app N0 (Fr.nil _)
  have c107 : Exa Z h101 d "com/example/tranche/tranche/journal/DefaultRateChange" := (Exa.ext E101 Ed)
  refine Go.stR (i := 0) (vs' := [(.ref d), .null, .null, .null, .null, .null]) (pc' := 23) C X104 e104 A101 (by decide) (by decide) (by simp) rfl (AL.sto A101 O101v (Ins.of_exa c107 (tw hw 149 rfl))) rfl d29_22 rfl ?_
  intro T106 h106 X106 e106 W106 A106
  have N106 := Fr.snoc X106 N104 n_b101
  refine Go.iinc (Ls' := #[.val (.ref v), .val (.ref b101), .val (.int ((0 : Int32) + (1 : Int32)))]) (z := (1 : Int32)) (pc' := 26) C X106 d29_23 rfl rfl rfl rfl ?_
  rw [show ((0 : Int32) + (1 : Int32)) = (1 : Int32) from by decide]
  refine Go.goto (pc' := 8) C X106 d29_26 (by decide) (by decide) ?_
  refine Go.iloadN (pc' := 9) C X106 d29_8 rfl rfl ?_
  refine Go.aloadN (pc' := 10) C X106 d29_9 rfl rfl rfl ?_
  have ne108 : v ≠ b101 := Nat.ne_of_lt (Nat.lt_of_lt_of_le Av.lt (Nat.le_trans (Nat.le_refl _) (Nat.le_of_eq g101.symm)))
  have c109 : AL Z h106 v kv (.object "java/lang/Object") [(.ref d), (.ref d), (.ref d), (.ref d), (.ref d), (.ref d)] := (AL.other W106 c102 ne108)
  refine Go.alen (z := (6 : Int32)) (pc' := 11) C X106 e106 c109 rfl d29_10 rfl ?_
  refine Go.icmpNo (pc' := 14) C X106 d29_11 (tlt (x := (1 : Int32)) (y := (6 : Int32)) (by decide)).2.1 rfl ?_
  refine Go.aloadN (pc' := 15) C X106 d29_14 rfl rfl rfl ?_
  refine Go.iloadN (pc' := 16) C X106 d29_15 rfl rfl ?_
  refine Go.aloadN (pc' := 17) C X106 d29_16 rfl rfl rfl ?_
  refine Go.iloadN (pc' := 18) C X106 d29_17 rfl rfl ?_
  refine Go.ldR (i := 1) (v := (.ref d)) (pc' := 19) C X106 e106 c109 (by decide) (by decide) rfl rfl d29_18 rfl ?_
  have O112 : Ext Z.heap h106 := (Ext.wr O105 W106 n_b101)
  refine Go.callS (y := (⟨"java/util/Objects", "requireNonNull", "(Ljava/lang/Object;)Ljava/lang/Object;"⟩ : MethodName)) (pc' := 22) C X106 (tw hw 204 rfl) (tw hw 205 rfl) (by decide) (rm_rn l Z a0 hw d h106 O112 ) (tw hw 207 rfl) (tw hw 206 rfl) e106 (argsL := [(.ref d)]) (rest := [(.int (1 : Int32)), (.ref b101)]) (W := 2) rfl rfl pd_8 rfl (Nat.le_of_eq rfl) rfl (by decide) (by decide) (by decide) (by decide) d29_19 rfl ?_
  intro T111 v111 L111 X111 q111
  obtain ⟨rfl, rfl, e111⟩ := q111
  have N111 := Fr.app N106 (Fr.nil _)
  have c114 : Exa Z h106 d "com/example/tranche/tranche/journal/DefaultRateChange" := (Exa.wr W106 c107)
  refine Go.stR (i := 1) (vs' := [(.ref d), (.ref d), .null, .null, .null, .null]) (pc' := 23) C X111 e111 A106 (by decide) (by decide) (by simp) rfl (AL.sto A106 O101v (Ins.of_exa c114 (tw hw 149 rfl))) rfl d29_22 rfl ?_
  intro T113 h113 X113 e113 W113 A113
  have N113 := Fr.snoc X113 N111 n_b101
  refine Go.iinc (Ls' := #[.val (.ref v), .val (.ref b101), .val (.int ((1 : Int32) + (1 : Int32)))]) (z := (1 : Int32)) (pc' := 26) C X113 d29_23 rfl rfl rfl rfl ?_
  rw [show ((1 : Int32) + (1 : Int32)) = (2 : Int32) from by decide]
  refine Go.goto (pc' := 8) C X113 d29_26 (by decide) (by decide) ?_
  refine Go.iloadN (pc' := 9) C X113 d29_8 rfl rfl ?_
  refine Go.aloadN (pc' := 10) C X113 d29_9 rfl rfl rfl ?_
  have c115 : AL Z h113 v kv (.object "java/lang/Object") [(.ref d), (.ref d), (.ref d), (.ref d), (.ref d), (.ref d)] := (AL.other W113 c109 ne108)
  refine Go.alen (z := (6 : Int32)) (pc' := 11) C X113 e113 c115 rfl d29_10 rfl ?_
  refine Go.icmpNo (pc' := 14) C X113 d29_11 (tlt (x := (2 : Int32)) (y := (6 : Int32)) (by decide)).2.1 rfl ?_
  refine Go.aloadN (pc' := 15) C X113 d29_14 rfl rfl rfl ?_
  refine Go.iloadN (pc' := 16) C X113 d29_15 rfl rfl ?_
  refine Go.aloadN (pc' := 17) C X113 d29_16 rfl rfl rfl ?_
  refine Go.iloadN (pc' := 18) C X113 d29_17 rfl rfl ?_
  refine Go.ldR (i := 2) (v := (.ref d)) (pc' := 19) C X113 e113 c115 (by decide) (by decide) rfl rfl d29_18 rfl ?_
  have O118 : Ext Z.heap h113 := (Ext.wr O112 W113 n_b101)
  refine Go.callS (y := (⟨"java/util/Objects", "requireNonNull", "(Ljava/lang/Object;)Ljava/lang/Object;"⟩ : MethodName)) (pc' := 22) C X113 (tw hw 204 rfl) (tw hw 205 rfl) (by decide) (rm_rn l Z a0 hw d h113 O118 ) (tw hw 207 rfl) (tw hw 206 rfl) e113 (argsL := [(.ref d)]) (rest := [(.int (2 : Int32)), (.ref b101)]) (W := 2) rfl rfl pd_8 rfl (Nat.le_of_eq rfl) rfl (by decide) (by decide) (by decide) (by decide) d29_19 rfl ?_
  intro T117 v117 L117 X117 q117
  obtain ⟨rfl, rfl, e117⟩ := q117
  have N117 := Fr.app N113 (Fr.nil _)
  have c120 : Exa Z h113 d "com/example/tranche/tranche/journal/DefaultRateChange" := (Exa.wr W113 c114)
  refine Go.stR (i := 2) (vs' := [(.ref d), (.ref d), (.ref d), .null, .null, .null]) (pc' := 23) C X117 e117 A113 (by decide) (by decide) (by simp) rfl (AL.sto A113 O101v (Ins.of_exa c120 (tw hw 149 rfl))) rfl d29_22 rfl ?_
  intro T119 h119 X119 e119 W119 A119
  have N119 := Fr.snoc X119 N117 n_b101
  refine Go.iinc (Ls' := #[.val (.ref v), .val (.ref b101), .val (.int ((2 : Int32) + (1 : Int32)))]) (z := (1 : Int32)) (pc' := 26) C X119 d29_23 rfl rfl rfl rfl ?_
  rw [show ((2 : Int32) + (1 : Int32)) = (3 : Int32) from by decide]
  refine Go.goto (pc' := 8) C X119 d29_26 (by decide) (by decide) ?_
  refine Go.iloadN (pc' := 9) C X119 d29_8 rfl rfl ?_
  refine Go.aloadN (pc' := 10) C X119 d29_9 rfl rfl rfl ?_
  have c121 : AL Z h119 v kv (.object "java/lang/Object") [(.ref d), (.ref d), (.ref d), (.ref d), (.ref d), (.ref d)] := (AL.other W119 c115 ne108)
  refine Go.alen (z := (6 : Int32)) (pc' := 11) C X119 e119 c121 rfl d29_10 rfl ?_
  refine Go.icmpNo (pc' := 14) C X119 d29_11 (tlt (x := (3 : Int32)) (y := (6 : Int32)) (by decide)).2.1 rfl ?_
  refine Go.aloadN (pc' := 15) C X119 d29_14 rfl rfl rfl ?_
  refine Go.iloadN (pc' := 16) C X119 d29_15 rfl rfl ?_
  refine Go.aloadN (pc' := 17) C X119 d29_16 rfl rfl rfl ?_
  refine Go.iloadN (pc' := 18) C X119 d29_17 rfl rfl ?_
  refine Go.ldR (i := 3) (v := (.ref d)) (pc' := 19) C X119 e119 c121 (by decide) (by decide) rfl rfl d29_18 rfl ?_
  have O124 : Ext Z.heap h119 := (Ext.wr O118 W119 n_b101)
  refine Go.callS (y := (⟨"java/util/Objects", "requireNonNull", "(Ljava/lang/Object;)Ljava/lang/Object;"⟩ : MethodName)) (pc' := 22) C X119 (tw hw 204 rfl) (tw hw 205 rfl) (by decide) (rm_rn l Z a0 hw d h119 O124 ) (tw hw 207 rfl) (tw hw 206 rfl) e119 (argsL := [(.ref d)]) (rest := [(.int (3 : Int32)), (.ref b101)]) (W := 2) rfl rfl pd_8 rfl (Nat.le_of_eq rfl) rfl (by decide) (by decide) (by decide) (by decide) d29_19 rfl ?_
  intro T123 v123 L123 X123 q123
  obtain ⟨rfl, rfl, e123⟩ := q123
  have N123 := Fr.app N119 (Fr.nil _)
  have c126 : Exa Z h119 d "com/example/tranche/tranche/journal/DefaultRateChange" := (Exa.wr W119 c120)
  refine Go.stR (i := 3) (vs' := [(.ref d), (.ref d), (.ref d), (.ref d), .null, .null]) (pc' := 23) C X123 e123 A119 (by decide) (by decide) (by simp) rfl (AL.sto A119 O101v (Ins.of_exa c126 (tw hw 149 rfl))) rfl d29_22 rfl ?_
  intro T125 h125 X125 e125 W125 A125
  have N125 := Fr.snoc X125 N123 n_b101
  refine Go.iinc (Ls' := #[.val (.ref v), .val (.ref b101), .val (.int ((3 : Int32) + (1 : Int32)))]) (z := (1 : Int32)) (pc' := 26) C X125 d29_23 rfl rfl rfl rfl ?_
  rw [show ((3 : Int32) + (1 : Int32)) = (4 : Int32) from by decide]
  refine Go.goto (pc' := 8) C X125 d29_26 (by decide) (by decide) ?_
  refine Go.iloadN (pc' := 9) C X125 d29_8 rfl rfl ?_
  refine Go.aloadN (pc' := 10) C X125 d29_9 rfl rfl rfl ?_
  have c127 : AL Z h125 v kv (.object "java/lang/Object") [(.ref d), (.ref d), (.ref d), (.ref d), (.ref d), (.ref d)] := (AL.other W125 c121 ne108)
  refine Go.alen (z := (6 : Int32)) (pc' := 11) C X125 e125 c127 rfl d29_10 rfl ?_
  refine Go.icmpNo (pc' := 14) C X125 d29_11 (tlt (x := (4 : Int32)) (y := (6 : Int32)) (by decide)).2.1 rfl ?_
  refine Go.aloadN (pc' := 15) C X125 d29_14 rfl rfl rfl ?_
  refine Go.iloadN (pc' := 16) C X125 d29_15 rfl rfl ?_
  refine Go.aloadN (pc' := 17) C X125 d29_16 rfl rfl rfl ?_
  refine Go.iloadN (pc' := 18) C X125 d29_17 rfl rfl ?_
  refine Go.ldR (i := 4) (v := (.ref d)) (pc' := 19) C X125 e125 c127 (by decide) (by decide) rfl rfl d29_18 rfl ?_
  have O130 : Ext Z.heap h125 := (Ext.wr O124 W125 n_b101)
  refine Go.callS (y := (⟨"java/util/Objects", "requireNonNull", "(Ljava/lang/Object;)Ljava/lang/Object;"⟩ : MethodName)) (pc' := 22) C X125 (tw hw 204 rfl) (tw hw 205 rfl) (by decide) (rm_rn l Z a0 hw d h125 O130 ) (tw hw 207 rfl) (tw hw 206 rfl) e125 (argsL := [(.ref d)]) (rest := [(.int (4 : Int32)), (.ref b101)]) (W := 2) rfl rfl pd_8 rfl (Nat.le_of_eq rfl) rfl (by decide) (by decide) (by decide) (by decide) d29_19 rfl ?_
  intro T129 v129 L129 X129 q129
  obtain ⟨rfl, rfl, e129⟩ := q129
  have N129 := Fr.app N125 (Fr.nil _)
  have c132 : Exa Z h125 d "com/example/tranche/tranche/journal/DefaultRateChange" := (Exa.wr W125 c126)
  refine Go.stR (i := 4) (vs' := [(.ref d), (.ref d), (.ref d), (.ref d), (.ref d), .null]) (pc' := 23) C X129 e129 A125 (by decide) (by decide) (by simp) rfl (AL.sto A125 O101v (Ins.of_exa c132 (tw hw 149 rfl))) rfl d29_22 rfl ?_
  intro T131 h131 X131 e131 W131 A131
  have N131 := Fr.snoc X131 N129 n_b101
  refine Go.iinc (Ls' := #[.val (.ref v), .val (.ref b101), .val (.int ((4 : Int32) + (1 : Int32)))]) (z := (1 : Int32)) (pc' := 26) C X131 d29_23 rfl rfl rfl rfl ?_
  rw [show ((4 : Int32) + (1 : Int32)) = (5 : Int32) from by decide]
  refine Go.goto (pc' := 8) C X131 d29_26 (by decide) (by decide) ?_
  refine Go.iloadN (pc' := 9) C X131 d29_8 rfl rfl ?_
  refine Go.aloadN (pc' := 10) C X131 d29_9 rfl rfl rfl ?_
  have c133 : AL Z h131 v kv (.object "java/lang/Object") [(.ref d), (.ref d), (.ref d), (.ref d), (.ref d), (.ref d)] := (AL.other W131 c127 ne108)
  refine Go.alen (z := (6 : Int32)) (pc' := 11) C X131 e131 c133 rfl d29_10 rfl ?_
  refine Go.icmpNo (pc' := 14) C X131 d29_11 (tlt (x := (5 : Int32)) (y := (6 : Int32)) (by decide)).2.1 rfl ?_
  refine Go.aloadN (pc' := 15) C X131 d29_14 rfl rfl rfl ?_
  refine Go.iloadN (pc' := 16) C X131 d29_15 rfl rfl ?_
  refine Go.aloadN (pc' := 17) C X131 d29_16 rfl rfl rfl ?_
  refine Go.iloadN (pc' := 18) C X131 d29_17 rfl rfl ?_
  refine Go.ldR (i := 5) (v := (.ref d)) (pc' := 19) C X131 e131 c133 (by decide) (by decide) rfl rfl d29_18 rfl ?_
  have O136 : Ext Z.heap h131 := (Ext.wr O130 W131 n_b101)
  refine Go.callS (y := (⟨"java/util/Objects", "requireNonNull", "(Ljava/lang/Object;)Ljava/lang/Object;"⟩ : MethodName)) (pc' := 22) C X131 (tw hw 204 rfl) (tw hw 205 rfl) (by decide) (rm_rn l Z a0 hw d h131 O136 ) (tw hw 207 rfl) (tw hw 206 rfl) e131 (argsL := [(.ref d)]) (rest := [(.int (5 : Int32)), (.ref b101)]) (W := 2) rfl rfl pd_8 rfl (Nat.le_of_eq rfl) rfl (by decide) (by decide) (by decide) (by decide) d29_19 rfl ?_
  intro T135 v135 L135 X135 q135
  obtain ⟨rfl, rfl, e135⟩ := q135
  have N135 := Fr.app N131 (Fr.nil _)
  have c138 : Exa Z h131 d "com/example/tranche/tranche/journal/DefaultRateChange" := (Exa.wr W131 c132)
  refine Go.stR (i := 5) (vs' := [(.ref d), (.ref d), (.ref d), (.ref d), (.ref d), (.ref d)]) (pc' := 23) C X135 e135 A131 (by decide) (by decide) (by simp) rfl (AL.sto A131 O101v (Ins.of_exa c138 (tw hw 149 rfl))) rfl d29_22 rfl ?_
  intro T137 h137 X137 e137 W137 A137
  have N137 := Fr.snoc X137 N135 n_b101
  refine Go.iinc (Ls' := #[.val (.ref v), .val (.ref b101), .val (.int ((5 : Int32) + (1 : Int32)))]) (z := (1 : Int32)) (pc' := 26) C X137 d29_23 rfl rfl rfl rfl ?_
  rw [show ((5 : Int32) + (1 : Int32)) = (6 : Int32) from by decide]
  refine Go.goto (pc' := 8) C X137 d29_26 (by decide) (by decide) ?_
  refine Go.iloadN (pc' := 9) C X137 d29_8 rfl rfl ?_
  refine Go.aloadN (pc' := 10) C X137 d29_9 rfl rfl rfl ?_
  have c139 : AL Z h137 v kv (.object "java/lang/Object") [(.ref d), (.ref d), (.ref d), (.ref d), (.ref d), (.ref d)] := (AL.other W137 c133 ne108)
  refine Go.alen (z := (6 : Int32)) (pc' := 11) C X137 e137 c139 rfl d29_10 rfl ?_
  refine Go.icmpYes (pc' := 29) C X137 d29_11 (flt (x := (6 : Int32)) (y := (6 : Int32)) (by decide)).2.1 (by decide) (by decide) ?_
  have O142 : Ext Z.heap h137 := (Ext.wr O136 W137 n_b101)
  refine Go.newO (pc' := 32) C X137 (tw hw 99 rfl) (tw hw 208 rfl) (tw hw 163 rfl) e137 (by decide) (by decide) d29_29 rfl ?_
  intro T141 h141 b141 X141 e141 g141 E141 A141 D141
  have n_b141 : Z.heap.size ≤ b141 := Nat.le_trans O142.1 (Nat.le_of_eq g141.symm)
  have z_b141 : h0.size ≤ b141 := Nat.le_trans (Nat.le_trans (Nat.le_trans (Nat.le_trans (Nat.le_trans (Nat.le_trans (Nat.le_trans (Nat.le_trans (Nat.le_refl _) E101.1) (Nat.le_of_eq W106.size.symm)) (Nat.le_of_eq W113.size.symm)) (Nat.le_of_eq W119.size.symm)) (Nat.le_of_eq W125.size.symm)) (Nat.le_of_eq W131.size.symm)) (Nat.le_of_eq W137.size.symm)) (Nat.le_of_eq g141.symm)
  have F141_elements : Fld Z h141 b141 "java/util/ImmutableCollections$ListN" "elements" "[Ljava/lang/Object;" .null := D141 (Or.inr (tw hw 166 rfl)) (ty := (.array (.object "java/lang/Object"))) (by decide)
  have F141_allowNulls : Fld Z h141 b141 "java/util/ImmutableCollections$ListN" "allowNulls" "Z" (.int (0 : Int32)) := D141 (Or.inr (tw hw 228 rfl)) (ty := .boolean) (by decide)
  refine Go.dup (pc' := 33) C X141 d29_32 rfl rfl ?_
  refine Go.aloadN (pc' := 34) C X141 d29_33 rfl rfl rfl ?_
  refine Go.iconst (z := (0 : Int32)) (pc' := 35) C X141 d29_34 rfl rfl ?_
  have O144 : Ext Z.heap h141 := (Ext.trans O142 E141)
  refine Go.callIN (y := (⟨"java/util/ImmutableCollections$ListN", "<init>", "([Ljava/lang/Object;Z)V"⟩ : MethodName)) (a := b141) (pc' := 38) C X141 rfl (tw hw 209 rfl) (tw hw 210 rfl) (by decide) (rm_lnI l Z a0 hw b141 b101 h141 O144 A141 F141_elements F141_allowNulls n_b141) (tw hw 212 rfl) (tw hw 163 rfl) e141 (argsL := [(.ref b101), (.int (0 : Int32))]) (rest := [(.ref b141)]) (W := 1) rfl rfl pd_13 rfl (Nat.le_of_eq rfl) rfl (by decide) (by decide) (by decide) (by decide) rfl d29_35 rfl ?_
  intro T143 v143 L143 X143 q143
  obtain ⟨rfl, N143q, K143, P143_0⟩ := q143
  have N143 := Fr.app N137 N143q
  have K145 : Keep h0 T143.heap [] := ((((((((((Keep.refl h0 []).ext E101).wr W106 (Or.inr z_b101)).wr W113 (Or.inr z_b101)).wr W119 (Or.inr z_b101)).wr W125 (Or.inr z_b101)).wr W131 (Or.inr z_b101)).wr W137 (Or.inr z_b101)).ext E141).trans K143 (allS (Or.inr z_b141) all0))
  have c146 : Exa Z T143.heap b141 "java/util/ImmutableCollections$ListN" := (Exa.keep A141 K143)
  have ne147 : b101 ≠ b141 := Nat.ne_of_lt (Nat.lt_of_lt_of_le A101.lt (Nat.le_trans (Nat.le_trans (Nat.le_trans (Nat.le_trans (Nat.le_trans (Nat.le_trans (Nat.le_trans (Nat.le_refl _) (Nat.le_of_eq W106.size.symm)) (Nat.le_of_eq W113.size.symm)) (Nat.le_of_eq W119.size.symm)) (Nat.le_of_eq W125.size.symm)) (Nat.le_of_eq W131.size.symm)) (Nat.le_of_eq W137.size.symm)) (Nat.le_of_eq g141.symm)))
  have c148 : AL Z T143.heap b101 k101 (.object "java/lang/Object") [(.ref d), (.ref d), (.ref d), (.ref d), (.ref d), (.ref d)] := (AL.keep (AL.ext E141 A137) K143 (ninS ne147 nin0))
  exact Go.retA C X143 rfl d29_38 rfl rfl rfl ⟨b141, b101, k101, rfl, N143, K145, z_b141, z_b101, c146, P143_0, c148⟩ (by decide) (by decide)
def Q_lof6 (Z : State) (d : Addr) (v : Addr) (kv : ClassId) (h0 : Heap) (rv : Option Value) (h : Heap) (L : List Loc) : Prop := ∃ r : Addr, ∃ q : Addr, ∃ kq : ClassId, rv = some (.ref r) ∧ Fr Z.heap.size L ∧ Keep h0 h [] ∧ h0.size ≤ r ∧ h0.size ≤ q ∧ Exa Z h r "java/util/ImmutableCollections$ListN" ∧ Fld Z h r "java/util/ImmutableCollections$ListN" "elements" "[Ljava/lang/Object;" (.ref q) ∧ AL Z h q kq (.object "java/lang/Object") [(.ref d), (.ref d), (.ref d), (.ref d), (.ref d), (.ref d)]
set_option maxRecDepth 65536 in
set_option maxHeartbeats 40000000 in
theorem rm_lof6 (l : Launch) (Z : State) (a0 : Array Value) (hw : ∀ d ∈ tables_1, d.before a0 Z = true) (d : Addr) (v : Addr) (kv : ClassId) (h0 : Heap) (O0 : Ext Z.heap h0) (Av : AL Z h0 v kv (.object "java/lang/Object") [(.ref d), (.ref d), (.ref d), (.ref d), (.ref d), (.ref d)]) (Ed : Exa Z h0 d "com/example/tranche/tranche/journal/DefaultRateChange") :
    Met1 l Z (⟨"java/util/List", "of", "([Ljava/lang/Object;)Ljava/util/List;"⟩ : MethodName) jdk_40_method_47_code 2 (some (.object "java/util/List")) ({ frames := 6, cells := 2, slots := 8, locals := 77 } : Room) #[(.ref v)] h0 (Q_lof6 Z d v kv h0) := by
  refine Met1.of_body (Ls := #[.val (.ref v), .unset]) pf_28 (fun m => by first | (simp [entryFrame, mkF, argsToLocals, Value.category]; done) | rfl) ?_
  intro p e s m below meth c T0 C X0 e0
  have N0 : Fr Z.heap.size [] := Fr.nil _
  refine Go.aloadN (pc' := 1) C X0 d28_0 rfl rfl rfl ?_
  refine Go.alen (z := (6 : Int32)) (pc' := 2) C X0 e0 Av rfl d28_1 rfl ?_
  refine Go.tswOut (pc' := 59) C X0 d28_2 (by decide) (by decide) (by decide) ?_
  refine Go.aloadN (pc' := 60) C X0 d28_59 rfl rfl rfl ?_
  refine Go.callS (y := (⟨"java/util/ImmutableCollections", "listFromArray", "([Ljava/lang/Object;)Ljava/util/List;"⟩ : MethodName)) (pc' := 63) C X0 (tw hw 200 rfl) (tw hw 201 rfl) (by decide) (rm_lfa6 l Z a0 hw d v kv h0 O0 Av Ed) (tw hw 202 rfl) (tw hw 92 rfl) e0 (argsL := [(.ref v)]) (rest := []) (W := 0) rfl rfl pd_14 rfl (Nat.le_of_eq rfl) rfl (by decide) (by decide) (by decide) (by decide) d28_60 rfl ?_
  intro T101 v101 L101 X101 q101
  obtain ⟨r_101, q_101, kq_101, rfl, N101q, K101, B101_0, B101_1, P101_0, P101_1, P101_2⟩ := q101
  have N101 := Fr.app N0 N101q
  have n_r_101 : Z.heap.size ≤ r_101 := Nat.le_trans O0.1 B101_0
  have z_r_101 : h0.size ≤ r_101 := Nat.le_trans (Nat.le_refl _) B101_0
  have n_q_101 : Z.heap.size ≤ q_101 := Nat.le_trans O0.1 B101_1
  have z_q_101 : h0.size ≤ q_101 := Nat.le_trans (Nat.le_refl _) B101_1
  have K102 : Keep h0 T101.heap [] := ((Keep.refl h0 []).trans K101 all0)
  exact Go.retA C X101 rfl d28_63 rfl rfl rfl ⟨r_101, q_101, kq_101, rfl, N101, K102, z_r_101, z_q_101, P101_0, P101_1, P101_2⟩ (by decide) (by decide)
def Q_emp7 (Z : State) (r : Addr) (h0 : Heap) (rv : Option Value) (h : Heap) (L : List Loc) : Prop := rv = some (.int (0 : Int32)) ∧ L = [] ∧ h = h0
set_option maxRecDepth 65536 in
set_option maxHeartbeats 40000000 in
theorem rm_emp7 (l : Launch) (Z : State) (a0 : Array Value) (hw : ∀ d ∈ tables_1, d.before a0 Z = true) (r : Addr) (h0 : Heap) (O0 : Ext Z.heap h0) (F3 : Fld Z h0 r "java/util/ArrayList" "size" "I" (.int (7 : Int32))) :
    Met1 l Z (⟨"java/util/ArrayList", "isEmpty", "()Z"⟩ : MethodName) jdk_38_method_9_code 1 (some .boolean) ({ frames := 0, cells := 0, slots := 0, locals := 0 } : Room) #[(.ref r)] h0 (Q_emp7 Z r h0) := by
  refine Met1.of_body (Ls := #[.val (.ref r)]) pf_15 (fun m => by first | (simp [entryFrame, mkF, argsToLocals, Value.category]; done) | rfl) ?_
  intro p e s m below meth c T0 C X0 e0
  have N0 : Fr Z.heap.size [] := Fr.nil _
  refine Go.aloadN (pc' := 1) C X0 d15_0 rfl rfl rfl ?_
  refine Go.getF (pc' := 4) (host := "") C X0 (Or.inl (tw hw 109 rfl)) Via.refl e0 F3 d15_1 rfl ?_
  intro T101 X101 e101
  refine Go.ifYes (pc' := 11) C X101 d15_4 ((if0 _ _).trans (feq (x := (7 : Int32)) (y := (0 : Int32)) (by decide)).2) (by decide) (by decide) ?_
  refine Go.iconst (z := (0 : Int32)) (pc' := 12) C X101 d15_11 rfl rfl ?_
  exact Go.retN C X101 rfl d15_12 (by simp) (by rw [e101]; exact ⟨rfl, rfl, rfl⟩) (by decide) (by decide)
def Q_mn7 (Z : State)  (h0 : Heap) (rv : Option Value) (h : Heap) (L : List Loc) : Prop := rv = some (.int (7 : Int32)) ∧ L = [] ∧ h = h0
set_option maxRecDepth 65536 in
set_option maxHeartbeats 40000000 in
theorem rm_mn7 (l : Launch) (Z : State) (a0 : Array Value) (hw : ∀ d ∈ tables_1, d.before a0 Z = true)  (h0 : Heap) (O0 : Ext Z.heap h0) :
    Met1 l Z (⟨"java/lang/Math", "min", "(II)I"⟩ : MethodName) jdk_29_method_69_code 2 (some .int) ({ frames := 0, cells := 0, slots := 0, locals := 0 } : Room) #[(.int (10 : Int32)), (.int (7 : Int32))] h0 (Q_mn7 Z  h0) := by
  refine Met1.of_body (Ls := #[.val (.int (10 : Int32)), .val (.int (7 : Int32))]) pf_27 (fun m => by first | (simp [entryFrame, mkF, argsToLocals, Value.category]; done) | rfl) ?_
  intro p e s m below meth c T0 C X0 e0
  have N0 : Fr Z.heap.size [] := Fr.nil _
  refine Go.iloadN (pc' := 1) C X0 d27_0 rfl rfl ?_
  refine Go.iloadN (pc' := 2) C X0 d27_1 rfl rfl ?_
  refine Go.icmpYes (pc' := 9) C X0 d27_2 (tlt (x := (7 : Int32)) (y := (10 : Int32)) (by decide)).2.2.1 (by decide) (by decide) ?_
  refine Go.iloadN (pc' := 10) C X0 d27_9 rfl rfl ?_
  exact Go.retI C X0 rfl d27_10 (by rw [e0]; exact ⟨rfl, rfl, rfl⟩) (by decide) (by decide)
def Q_cpc7 (Z : State) (d : Addr) (w : Addr) (kw : ClassId) (mr : Addr) (h0 : Heap) (rv : Option Value) (h : Heap) (L : List Loc) : Prop := ∃ v : Addr, ∃ kv : ClassId, rv = some (.ref v) ∧ Fr Z.heap.size L ∧ Keep h0 h [] ∧ h0.size ≤ v ∧ AL Z h v kv (.object "java/lang/Object") [(.ref d), (.ref d), (.ref d), (.ref d), (.ref d), (.ref d), (.ref d)]
set_option maxRecDepth 65536 in
set_option maxHeartbeats 40000000 in
theorem rm_cpc7 (l : Launch) (Z : State) (a0 : Array Value) (hw : ∀ d ∈ tables_1, d.before a0 Z = true) (d : Addr) (w : Addr) (kw : ClassId) (mr : Addr) (h0 : Heap) (O0 : Ext Z.heap h0) (Ew : Exa Z h0 w "[Ljava/lang/Object;") (Aw : AL Z h0 w kw (.object "java/lang/Object") [(.ref d), (.ref d), (.ref d), (.ref d), (.ref d), (.ref d), (.ref d), .null, .null, .null]) (Ed : Exa Z h0 d "com/example/tranche/tranche/journal/DefaultRateChange") (hM : Mir Z "[Ljava/lang/Object;" mr) :
    Met1 l Z (⟨"java/util/Arrays", "copyOf", "([Ljava/lang/Object;ILjava/lang/Class;)[Ljava/lang/Object;"⟩ : MethodName) jdk_65_method_120_code 4 (some (.array (.object "java/lang/Object"))) ({ frames := 1, cells := 1, slots := 7, locals := 18 } : Room) #[(.ref w), (.int (7 : Int32)), (.ref mr)] h0 (Q_cpc7 Z d w kw mr h0) := by
  refine Met1.of_body (Ls := #[.val (.ref w), .val (.int (7 : Int32)), .val (.ref mr), .unset]) pf_26 (fun m => by first | (simp [entryFrame, mkF, argsToLocals, Value.category]; done) | rfl) ?_
  intro p e s m below meth c T0 C X0 e0
  have N0 : Fr Z.heap.size [] := Fr.nil _
  refine Go.aloadN (pc' := 1) C X0 d26_0 rfl rfl rfl ?_
  refine Go.ldcM (pc' := 3) C X0 (tw hw 188 rfl) e0 hM d26_1 rfl ?_
  intro T101 X101 e101
  refine Go.acmpNo (pc' := 6) C X101 d26_3 rfl rfl (XT.aa_ne_f rfl) rfl ?_
  refine Go.iloadN (pc' := 7) C X101 d26_6 rfl rfl ?_
  refine Go.newR (cap := 7) (vs := [.null, .null, .null, .null, .null, .null, .null]) (ad := "[Ljava/lang/Object;") (pc' := 10) C X101 (by decide) (tw hw 189 rfl) (tw hw 148 rfl) e101 (by decide) (by decide) (by decide) (by decide) (by decide) rfl d26_7 rfl ?_
  intro T102 h102 b102 k102 X102 e102 g102 E102 A102 Ea102 O102v
  have n_b102 : Z.heap.size ≤ b102 := Nat.le_trans O0.1 (Nat.le_of_eq g102.symm)
  have z_b102 : h0.size ≤ b102 := Nat.le_trans (Nat.le_refl _) (Nat.le_of_eq g102.symm)
  have A102 : AL Z h102 b102 k102 (.object "java/lang/Object") [.null, .null, .null, .null, .null, .null, .null] := A102
  refine Go.goto (pc' := 24) C X102 d26_10 (by decide) (by decide) ?_
  refine Go.astoreN (Ls' := #[.val (.ref w), .val (.int (7 : Int32)), .val (.ref mr), .val (.ref b102)]) (pc' := 25) C X102 d26_24 rfl rfl rfl ?_
  refine Go.aloadN (pc' := 26) C X102 d26_25 rfl rfl rfl ?_
  refine Go.iconst (z := (0 : Int32)) (pc' := 27) C X102 d26_26 rfl rfl ?_
  refine Go.aloadN (pc' := 28) C X102 d26_27 rfl rfl rfl ?_
  refine Go.iconst (z := (0 : Int32)) (pc' := 29) C X102 d26_28 rfl rfl ?_
  refine Go.aloadN (pc' := 30) C X102 d26_29 rfl rfl rfl ?_
  have c103 : AL Z h102 w kw (.object "java/lang/Object") [(.ref d), (.ref d), (.ref d), (.ref d), (.ref d), (.ref d), (.ref d), .null, .null, .null] := (AL.ext E102 Aw)
  refine Go.alen (z := (10 : Int32)) (pc' := 31) C X102 e102 c103 rfl d26_30 rfl ?_
  refine Go.iloadN (pc' := 32) C X102 d26_31 rfl rfl ?_
  have O105 : Ext Z.heap h102 := (Ext.trans O0 E102)
  refine Go.callS (y := (⟨"java/lang/Math", "min", "(II)I"⟩ : MethodName)) (pc' := 35) C X102 (tw hw 190 rfl) (tw hw 191 rfl) (by decide) (rm_mn7 l Z a0 hw  h102 O105 ) (tw hw 192 rfl) (tw hw 145 rfl) e102 (argsL := [(.int (10 : Int32)), (.int (7 : Int32))]) (rest := [(.int (0 : Int32)), (.ref b102), (.int (0 : Int32)), (.ref w)]) (W := 4) rfl rfl pd_4 rfl (Nat.le_of_eq rfl) rfl (by decide) (by decide) (by decide) (by decide) d26_32 rfl ?_
  intro T104 v104 L104 X104 q104
  obtain ⟨rfl, rfl, e104⟩ := q104
  have N104 := Fr.app N0 (Fr.nil _)
  have c107 : Exa Z h102 d "com/example/tranche/tranche/journal/DefaultRateChange" := (Exa.ext E102 Ed)
  refine Go.arrcopy (i := 0) (j := 0) (n := 7) (vd' := [(.ref d), (.ref d), (.ref d), (.ref d), (.ref d), (.ref d), (.ref d)]) (W := 0) (n0 := Z.heap.size) (pc' := 38) C X104 (tw hw 193 rfl) (tw hw 196 rfl) (tw hw 194 rfl) (tw hw 195 rfl) e104 c103 A102 (by simp [fits]) (by simp [fits]) (by simp) (by simp) (Or.inr ⟨rfl, rfl, ⟨(AL.sto A102 O102v (Ins.of_exa c107 (tw hw 149 rfl))), ⟨(AL.sto A102 O102v (Ins.of_exa c107 (tw hw 149 rfl))), ⟨(AL.sto A102 O102v (Ins.of_exa c107 (tw hw 149 rfl))), ⟨(AL.sto A102 O102v (Ins.of_exa c107 (tw hw 149 rfl))), ⟨(AL.sto A102 O102v (Ins.of_exa c107 (tw hw 149 rfl))), ⟨(AL.sto A102 O102v (Ins.of_exa c107 (tw hw 149 rfl))), ⟨(AL.sto A102 O102v (Ins.of_exa c107 (tw hw 149 rfl))), trivial⟩⟩⟩⟩⟩⟩⟩⟩) (by decide) (by decide) (by decide) (by decide) (by decide) (by decide) (by simp) (by simp) rfl N104 n_b102 rfl (by decide) (Nat.le_of_eq rfl) (by decide) d26_35 rfl ?_
  intro T106 h106 L106 X106 e106 N106 K106 A106
  refine Go.aloadN (pc' := 39) C X106 d26_38 rfl rfl rfl ?_
  have K108 : Keep h0 h106 [] := (((Keep.refl h0 []).ext E102).trans K106 (allS (Or.inr z_b102) all0))
  exact Go.retA C X106 rfl d26_39 rfl rfl rfl (by rw [e106]; exact ⟨b102, k102, rfl, N106, K108, z_b102, A106⟩) (by decide) (by decide)
def Q_cp7 (Z : State) (d : Addr) (w : Addr) (kw : ClassId) (mr : Addr) (h0 : Heap) (rv : Option Value) (h : Heap) (L : List Loc) : Prop := ∃ v : Addr, ∃ kv : ClassId, rv = some (.ref v) ∧ Fr Z.heap.size L ∧ Keep h0 h [] ∧ h0.size ≤ v ∧ AL Z h v kv (.object "java/lang/Object") [(.ref d), (.ref d), (.ref d), (.ref d), (.ref d), (.ref d), (.ref d)]
set_option maxRecDepth 65536 in
set_option maxHeartbeats 40000000 in
theorem rm_cp7 (l : Launch) (Z : State) (a0 : Array Value) (hw : ∀ d ∈ tables_1, d.before a0 Z = true) (d : Addr) (w : Addr) (kw : ClassId) (mr : Addr) (h0 : Heap) (O0 : Ext Z.heap h0) (Ew : Exa Z h0 w "[Ljava/lang/Object;") (Aw : AL Z h0 w kw (.object "java/lang/Object") [(.ref d), (.ref d), (.ref d), (.ref d), (.ref d), (.ref d), (.ref d), .null, .null, .null]) (Ed : Exa Z h0 d "com/example/tranche/tranche/journal/DefaultRateChange") (hM : Mir Z "[Ljava/lang/Object;" mr) :
    Met1 l Z (⟨"java/util/Arrays", "copyOf", "([Ljava/lang/Object;I)[Ljava/lang/Object;"⟩ : MethodName) jdk_65_method_119_code 2 (some (.array (.object "java/lang/Object"))) ({ frames := 2, cells := 1, slots := 7, locals := 33 } : Room) #[(.ref w), (.int (7 : Int32))] h0 (Q_cp7 Z d w kw mr h0) := by
  refine Met1.of_body (Ls := #[.val (.ref w), .val (.int (7 : Int32))]) pf_25 (fun m => by first | (simp [entryFrame, mkF, argsToLocals, Value.category]; done) | rfl) ?_
  intro p e s m below meth c T0 C X0 e0
  have N0 : Fr Z.heap.size [] := Fr.nil _
  refine Go.aloadN (pc' := 1) C X0 d25_0 rfl rfl rfl ?_
  refine Go.iloadN (pc' := 2) C X0 d25_1 rfl rfl ?_
  refine Go.aloadN (pc' := 3) C X0 d25_2 rfl rfl rfl ?_
  refine Go.gcls (W := 2) (pc' := 6) C X0 (tw hw 179 rfl) (tw hw 180 rfl) (tw hw 98 rfl) (tw hw 182 rfl) (tw hw 181 rfl) (tw hw 183 rfl) e0 Ew hM rfl (by decide) (Nat.le_of_eq rfl) (by decide) d25_3 rfl ?_
  intro T101 X101 e101
  refine Go.callS (y := (⟨"java/util/Arrays", "copyOf", "([Ljava/lang/Object;ILjava/lang/Class;)[Ljava/lang/Object;"⟩ : MethodName)) (pc' := 9) C X101 (tw hw 185 rfl) (tw hw 186 rfl) (by decide) (rm_cpc7 l Z a0 hw d w kw mr h0 O0 Ew Aw Ed hM) (tw hw 187 rfl) (tw hw 177 rfl) e101 (argsL := [(.ref w), (.int (7 : Int32)), (.ref mr)]) (rest := []) (W := 0) rfl rfl pd_9 rfl (Nat.le_of_eq rfl) rfl (by decide) (by decide) (by decide) (by decide) d25_6 rfl ?_
  intro T102 v102 L102 X102 q102
  obtain ⟨v_102, kv_102, rfl, N102q, K102, B102_0, P102_0⟩ := q102
  have N102 := Fr.app N0 N102q
  have n_v_102 : Z.heap.size ≤ v_102 := Nat.le_trans O0.1 B102_0
  have z_v_102 : h0.size ≤ v_102 := Nat.le_trans (Nat.le_refl _) B102_0
  have K103 : Keep h0 T102.heap [] := ((Keep.refl h0 []).trans K102 all0)
  exact Go.retA C X102 rfl d25_9 rfl rfl rfl ⟨v_102, kv_102, rfl, N102, K103, z_v_102, P102_0⟩ (by decide) (by decide)
def Q_ta7 (Z : State) (r : Addr) (d : Addr) (w : Addr) (kw : ClassId) (mr : Addr) (h0 : Heap) (rv : Option Value) (h : Heap) (L : List Loc) : Prop := ∃ v : Addr, ∃ kv : ClassId, rv = some (.ref v) ∧ Fr Z.heap.size L ∧ Keep h0 h [] ∧ h0.size ≤ v ∧ AL Z h v kv (.object "java/lang/Object") [(.ref d), (.ref d), (.ref d), (.ref d), (.ref d), (.ref d), (.ref d)]
set_option maxRecDepth 65536 in
set_option maxHeartbeats 40000000 in
theorem rm_ta7 (l : Launch) (Z : State) (a0 : Array Value) (hw : ∀ d ∈ tables_1, d.before a0 Z = true) (r : Addr) (d : Addr) (w : Addr) (kw : ClassId) (mr : Addr) (h0 : Heap) (O0 : Ext Z.heap h0) (F2 : Fld Z h0 r "java/util/ArrayList" "elementData" "[Ljava/lang/Object;" (.ref w)) (F3 : Fld Z h0 r "java/util/ArrayList" "size" "I" (.int (7 : Int32))) (Ew : Exa Z h0 w "[Ljava/lang/Object;") (Aw : AL Z h0 w kw (.object "java/lang/Object") [(.ref d), (.ref d), (.ref d), (.ref d), (.ref d), (.ref d), (.ref d), .null, .null, .null]) (Ed : Exa Z h0 d "com/example/tranche/tranche/journal/DefaultRateChange") (hM : Mir Z "[Ljava/lang/Object;" mr) :
    Met1 l Z (⟨"java/util/ArrayList", "toArray", "()[Ljava/lang/Object;"⟩ : MethodName) jdk_38_method_16_code 1 (some (.array (.object "java/lang/Object"))) ({ frames := 3, cells := 1, slots := 7, locals := 46 } : Room) #[(.ref r)] h0 (Q_ta7 Z r d w kw mr h0) := by
  refine Met1.of_body (Ls := #[.val (.ref r)]) pf_24 (fun m => by first | (simp [entryFrame, mkF, argsToLocals, Value.category]; done) | rfl) ?_
  intro p e s m below meth c T0 C X0 e0
  have N0 : Fr Z.heap.size [] := Fr.nil _
  refine Go.aloadN (pc' := 1) C X0 d24_0 rfl rfl rfl ?_
  refine Go.getF (pc' := 4) (host := "") C X0 (Or.inl (tw hw 77 rfl)) Via.refl e0 F2 d24_1 rfl ?_
  intro T101 X101 e101
  refine Go.aloadN (pc' := 5) C X101 d24_4 rfl rfl rfl ?_
  refine Go.getF (pc' := 8) (host := "") C X101 (Or.inl (tw hw 109 rfl)) Via.refl e101 F3 d24_5 rfl ?_
  intro T102 X102 e102
  refine Go.callS (y := (⟨"java/util/Arrays", "copyOf", "([Ljava/lang/Object;I)[Ljava/lang/Object;"⟩ : MethodName)) (pc' := 11) C X102 (tw hw 175 rfl) (tw hw 176 rfl) (by decide) (rm_cp7 l Z a0 hw d w kw mr h0 O0 Ew Aw Ed hM) (tw hw 178 rfl) (tw hw 177 rfl) e102 (argsL := [(.ref w), (.int (7 : Int32))]) (rest := []) (W := 0) rfl rfl pd_10 rfl (Nat.le_of_eq rfl) rfl (by decide) (by decide) (by decide) (by decide) d24_8 rfl ?_
  intro T103 v103 L103 X103 q103
  obtain ⟨v_103, kv_103, rfl, N103q, K103, B103_0, P103_0⟩ := q103
  have N103 := Fr.app N0 N103q
  have n_v_103 : Z.heap.size ≤ v_103 := Nat.le_trans O0.1 B103_0
  have z_v_103 : h0.size ≤ v_103 := Nat.le_trans (Nat.le_refl _) B103_0
  have K104 : Keep h0 T103.heap [] := ((Keep.refl h0 []).trans K103 all0)
  exact Go.retA C X103 rfl d24_11 rfl rfl rfl ⟨v_103, kv_103, rfl, N103, K104, z_v_103, P103_0⟩ (by decide) (by decide)
def Q_lfa7 (Z : State) (d : Addr) (v : Addr) (kv : ClassId) (h0 : Heap) (rv : Option Value) (h : Heap) (L : List Loc) : Prop := ∃ r : Addr, ∃ q : Addr, ∃ kq : ClassId, rv = some (.ref r) ∧ Fr Z.heap.size L ∧ Keep h0 h [] ∧ h0.size ≤ r ∧ h0.size ≤ q ∧ Exa Z h r "java/util/ImmutableCollections$ListN" ∧ Fld Z h r "java/util/ImmutableCollections$ListN" "elements" "[Ljava/lang/Object;" (.ref q) ∧ AL Z h q kq (.object "java/lang/Object") [(.ref d), (.ref d), (.ref d), (.ref d), (.ref d), (.ref d), (.ref d)]
set_option maxRecDepth 65536 in
set_option maxHeartbeats 40000000 in
theorem rm_lfa7 (l : Launch) (Z : State) (a0 : Array Value) (hw : ∀ d ∈ tables_1, d.before a0 Z = true) (d : Addr) (v : Addr) (kv : ClassId) (h0 : Heap) (O0 : Ext Z.heap h0) (Av : AL Z h0 v kv (.object "java/lang/Object") [(.ref d), (.ref d), (.ref d), (.ref d), (.ref d), (.ref d), (.ref d)]) (Ed : Exa Z h0 d "com/example/tranche/tranche/journal/DefaultRateChange") :
    Met1 l Z (⟨"java/util/ImmutableCollections", "listFromArray", "([Ljava/lang/Object;)Ljava/util/List;"⟩ : MethodName) jdk_56_method_4_code 3 (some (.object "java/util/List")) ({ frames := 5, cells := 2, slots := 9, locals := 63 } : Room) #[(.ref v)] h0 (Q_lfa7 Z d v kv h0) := by
  refine Met1.of_body (Ls := #[.val (.ref v), .unset, .unset]) pf_29 (fun m => by first | (simp [entryFrame, mkF, argsToLocals, Value.category]; done) | rfl) ?_
  intro p e s m below meth c T0 C X0 e0
  have N0 : Fr Z.heap.size [] := Fr.nil _
  refine Go.aloadN (pc' := 1) C X0 d29_0 rfl rfl rfl ?_
  refine Go.alen (z := (7 : Int32)) (pc' := 2) C X0 e0 Av rfl d29_1 rfl ?_
  refine Go.newR (cap := 7) (vs := [.null, .null, .null, .null, .null, .null, .null]) (ad := "[Ljava/lang/Object;") (pc' := 5) C X0 (by decide) (tw hw 203 rfl) (tw hw 148 rfl) e0 (by decide) (by decide) (by decide) (by decide) (by decide) rfl d29_2 rfl ?_
  intro T101 h101 b101 k101 X101 e101 g101 E101 A101 Ea101 O101v
  have n_b101 : Z.heap.size ≤ b101 := Nat.le_trans O0.1 (Nat.le_of_eq g101.symm)
  have z_b101 : h0.size ≤ b101 := Nat.le_trans (Nat.le_refl _) (Nat.le_of_eq g101.symm)
  have A101 : AL Z h101 b101 k101 (.object "java/lang/Object") [.null, .null, .null, .null, .null, .null, .null] := A101
  refine Go.astoreN (Ls' := #[.val (.ref v), .val (.ref b101), .unset]) (pc' := 6) C X101 d29_5 rfl rfl rfl ?_
  refine Go.iconst (z := (0 : Int32)) (pc' := 7) C X101 d29_6 rfl rfl ?_
  refine Go.istoreN (Ls' := #[.val (.ref v), .val (.ref b101), .val (.int (0 : Int32))]) (pc' := 8) C X101 d29_7 rfl rfl ?_
  refine Go.iloadN (pc' := 9) C X101 d29_8 rfl rfl ?_
  refine Go.aloadN (pc' := 10) C X101 d29_9 rfl rfl rfl ?_
  have c102 : AL Z h101 v kv (.object "java/lang/Object") [(.ref d), (.ref d), (.ref d), (.ref d), (.ref d), (.ref d), (.ref d)] := (AL.ext E101 Av)
  refine Go.alen (z := (7 : Int32)) (pc' := 11) C X101 e101 c102 rfl d29_10 rfl ?_
  refine Go.icmpNo (pc' := 14) C X101 d29_11 (tlt (x := (0 : Int32)) (y := (7 : Int32)) (by decide)).2.1 rfl ?_
  refine Go.aloadN (pc' := 15) C X101 d29_14 rfl rfl rfl ?_
  refine Go.iloadN (pc' := 16) C X101 d29_15 rfl rfl ?_
  refine Go.aloadN (pc' := 17) C X101 d29_16 rfl rfl rfl ?_
  refine Go.iloadN (pc' := 18) C X101 d29_17 rfl rfl ?_
  refine Go.ldR (i := 0) (v := (.ref d)) (pc' := 19) C X101 e101 c102 (by decide) (by decide) rfl rfl d29_18 rfl ?_
  have O105 : Ext Z.heap h101 := (Ext.trans O0 E101)
  refine Go.callS (y := (⟨"java/util/Objects", "requireNonNull", "(Ljava/lang/Object;)Ljava/lang/Object;"⟩ : MethodName)) (pc' := 22) C X101 (tw hw 204 rfl) (tw hw 205 rfl) (by decide) (rm_rn l Z a0 hw d h101 O105 ) (tw hw 207 rfl) (tw hw 206 rfl) e101 (argsL := [(.ref d)]) (rest := [(.int (0 : Int32)), (.ref b101)]) (W := 2) rfl rfl pd_8 rfl (Nat.le_of_eq rfl) rfl (by decide) (by decide) (by decide) (by decide) d29_19 rfl ?_
  intro T104 v104 L104 X104 q104
  obtain ⟨rfl, rfl, e104⟩ := q104
  have N104 := Fr.app N0 (Fr.nil _)
  have c107 : Exa Z h101 d "com/example/tranche/tranche/journal/DefaultRateChange" := (Exa.ext E101 Ed)
  refine Go.stR (i := 0) (vs' := [(.ref d), .null, .null, .null, .null, .null, .null]) (pc' := 23) C X104 e104 A101 (by decide) (by decide) (by simp) rfl (AL.sto A101 O101v (Ins.of_exa c107 (tw hw 149 rfl))) rfl d29_22 rfl ?_
  intro T106 h106 X106 e106 W106 A106
  have N106 := Fr.snoc X106 N104 n_b101
  refine Go.iinc (Ls' := #[.val (.ref v), .val (.ref b101), .val (.int ((0 : Int32) + (1 : Int32)))]) (z := (1 : Int32)) (pc' := 26) C X106 d29_23 rfl rfl rfl rfl ?_
  rw [show ((0 : Int32) + (1 : Int32)) = (1 : Int32) from by decide]
  refine Go.goto (pc' := 8) C X106 d29_26 (by decide) (by decide) ?_
  refine Go.iloadN (pc' := 9) C X106 d29_8 rfl rfl ?_
  refine Go.aloadN (pc' := 10) C X106 d29_9 rfl rfl rfl ?_
  have ne108 : v ≠ b101 := Nat.ne_of_lt (Nat.lt_of_lt_of_le Av.lt (Nat.le_trans (Nat.le_refl _) (Nat.le_of_eq g101.symm)))
  have c109 : AL Z h106 v kv (.object "java/lang/Object") [(.ref d), (.ref d), (.ref d), (.ref d), (.ref d), (.ref d), (.ref d)] := (AL.other W106 c102 ne108)
  refine Go.alen (z := (7 : Int32)) (pc' := 11) C X106 e106 c109 rfl d29_10 rfl ?_
  refine Go.icmpNo (pc' := 14) C X106 d29_11 (tlt (x := (1 : Int32)) (y := (7 : Int32)) (by decide)).2.1 rfl ?_
  refine Go.aloadN (pc' := 15) C X106 d29_14 rfl rfl rfl ?_
  refine Go.iloadN (pc' := 16) C X106 d29_15 rfl rfl ?_
  refine Go.aloadN (pc' := 17) C X106 d29_16 rfl rfl rfl ?_
  refine Go.iloadN (pc' := 18) C X106 d29_17 rfl rfl ?_
  refine Go.ldR (i := 1) (v := (.ref d)) (pc' := 19) C X106 e106 c109 (by decide) (by decide) rfl rfl d29_18 rfl ?_
  have O112 : Ext Z.heap h106 := (Ext.wr O105 W106 n_b101)
  refine Go.callS (y := (⟨"java/util/Objects", "requireNonNull", "(Ljava/lang/Object;)Ljava/lang/Object;"⟩ : MethodName)) (pc' := 22) C X106 (tw hw 204 rfl) (tw hw 205 rfl) (by decide) (rm_rn l Z a0 hw d h106 O112 ) (tw hw 207 rfl) (tw hw 206 rfl) e106 (argsL := [(.ref d)]) (rest := [(.int (1 : Int32)), (.ref b101)]) (W := 2) rfl rfl pd_8 rfl (Nat.le_of_eq rfl) rfl (by decide) (by decide) (by decide) (by decide) d29_19 rfl ?_
  intro T111 v111 L111 X111 q111
  obtain ⟨rfl, rfl, e111⟩ := q111
  have N111 := Fr.app N106 (Fr.nil _)
  have c114 : Exa Z h106 d "com/example/tranche/tranche/journal/DefaultRateChange" := (Exa.wr W106 c107)
  refine Go.stR (i := 1) (vs' := [(.ref d), (.ref d), .null, .null, .null, .null, .null]) (pc' := 23) C X111 e111 A106 (by decide) (by decide) (by simp) rfl (AL.sto A106 O101v (Ins.of_exa c114 (tw hw 149 rfl))) rfl d29_22 rfl ?_
  intro T113 h113 X113 e113 W113 A113
  have N113 := Fr.snoc X113 N111 n_b101
  refine Go.iinc (Ls' := #[.val (.ref v), .val (.ref b101), .val (.int ((1 : Int32) + (1 : Int32)))]) (z := (1 : Int32)) (pc' := 26) C X113 d29_23 rfl rfl rfl rfl ?_
  rw [show ((1 : Int32) + (1 : Int32)) = (2 : Int32) from by decide]
  refine Go.goto (pc' := 8) C X113 d29_26 (by decide) (by decide) ?_
  refine Go.iloadN (pc' := 9) C X113 d29_8 rfl rfl ?_
  refine Go.aloadN (pc' := 10) C X113 d29_9 rfl rfl rfl ?_
  have c115 : AL Z h113 v kv (.object "java/lang/Object") [(.ref d), (.ref d), (.ref d), (.ref d), (.ref d), (.ref d), (.ref d)] := (AL.other W113 c109 ne108)
  refine Go.alen (z := (7 : Int32)) (pc' := 11) C X113 e113 c115 rfl d29_10 rfl ?_
  refine Go.icmpNo (pc' := 14) C X113 d29_11 (tlt (x := (2 : Int32)) (y := (7 : Int32)) (by decide)).2.1 rfl ?_
  refine Go.aloadN (pc' := 15) C X113 d29_14 rfl rfl rfl ?_
  refine Go.iloadN (pc' := 16) C X113 d29_15 rfl rfl ?_
  refine Go.aloadN (pc' := 17) C X113 d29_16 rfl rfl rfl ?_
  refine Go.iloadN (pc' := 18) C X113 d29_17 rfl rfl ?_
  refine Go.ldR (i := 2) (v := (.ref d)) (pc' := 19) C X113 e113 c115 (by decide) (by decide) rfl rfl d29_18 rfl ?_
  have O118 : Ext Z.heap h113 := (Ext.wr O112 W113 n_b101)
  refine Go.callS (y := (⟨"java/util/Objects", "requireNonNull", "(Ljava/lang/Object;)Ljava/lang/Object;"⟩ : MethodName)) (pc' := 22) C X113 (tw hw 204 rfl) (tw hw 205 rfl) (by decide) (rm_rn l Z a0 hw d h113 O118 ) (tw hw 207 rfl) (tw hw 206 rfl) e113 (argsL := [(.ref d)]) (rest := [(.int (2 : Int32)), (.ref b101)]) (W := 2) rfl rfl pd_8 rfl (Nat.le_of_eq rfl) rfl (by decide) (by decide) (by decide) (by decide) d29_19 rfl ?_
  intro T117 v117 L117 X117 q117
  obtain ⟨rfl, rfl, e117⟩ := q117
  have N117 := Fr.app N113 (Fr.nil _)
  have c120 : Exa Z h113 d "com/example/tranche/tranche/journal/DefaultRateChange" := (Exa.wr W113 c114)
  refine Go.stR (i := 2) (vs' := [(.ref d), (.ref d), (.ref d), .null, .null, .null, .null]) (pc' := 23) C X117 e117 A113 (by decide) (by decide) (by simp) rfl (AL.sto A113 O101v (Ins.of_exa c120 (tw hw 149 rfl))) rfl d29_22 rfl ?_
  intro T119 h119 X119 e119 W119 A119
  have N119 := Fr.snoc X119 N117 n_b101
  refine Go.iinc (Ls' := #[.val (.ref v), .val (.ref b101), .val (.int ((2 : Int32) + (1 : Int32)))]) (z := (1 : Int32)) (pc' := 26) C X119 d29_23 rfl rfl rfl rfl ?_
  rw [show ((2 : Int32) + (1 : Int32)) = (3 : Int32) from by decide]
  refine Go.goto (pc' := 8) C X119 d29_26 (by decide) (by decide) ?_
  refine Go.iloadN (pc' := 9) C X119 d29_8 rfl rfl ?_
  refine Go.aloadN (pc' := 10) C X119 d29_9 rfl rfl rfl ?_
  have c121 : AL Z h119 v kv (.object "java/lang/Object") [(.ref d), (.ref d), (.ref d), (.ref d), (.ref d), (.ref d), (.ref d)] := (AL.other W119 c115 ne108)
  refine Go.alen (z := (7 : Int32)) (pc' := 11) C X119 e119 c121 rfl d29_10 rfl ?_
  refine Go.icmpNo (pc' := 14) C X119 d29_11 (tlt (x := (3 : Int32)) (y := (7 : Int32)) (by decide)).2.1 rfl ?_
  refine Go.aloadN (pc' := 15) C X119 d29_14 rfl rfl rfl ?_
  refine Go.iloadN (pc' := 16) C X119 d29_15 rfl rfl ?_
  refine Go.aloadN (pc' := 17) C X119 d29_16 rfl rfl rfl ?_
  refine Go.iloadN (pc' := 18) C X119 d29_17 rfl rfl ?_
  refine Go.ldR (i := 3) (v := (.ref d)) (pc' := 19) C X119 e119 c121 (by decide) (by decide) rfl rfl d29_18 rfl ?_
  have O124 : Ext Z.heap h119 := (Ext.wr O118 W119 n_b101)
  refine Go.callS (y := (⟨"java/util/Objects", "requireNonNull", "(Ljava/lang/Object;)Ljava/lang/Object;"⟩ : MethodName)) (pc' := 22) C X119 (tw hw 204 rfl) (tw hw 205 rfl) (by decide) (rm_rn l Z a0 hw d h119 O124 ) (tw hw 207 rfl) (tw hw 206 rfl) e119 (argsL := [(.ref d)]) (rest := [(.int (3 : Int32)), (.ref b101)]) (W := 2) rfl rfl pd_8 rfl (Nat.le_of_eq rfl) rfl (by decide) (by decide) (by decide) (by decide) d29_19 rfl ?_
  intro T123 v123 L123 X123 q123
  obtain ⟨rfl, rfl, e123⟩ := q123
  have N123 := Fr.app N119 (Fr.nil _)
  have c126 : Exa Z h119 d "com/example/tranche/tranche/journal/DefaultRateChange" := (Exa.wr W119 c120)
  refine Go.stR (i := 3) (vs' := [(.ref d), (.ref d), (.ref d), (.ref d), .null, .null, .null]) (pc' := 23) C X123 e123 A119 (by decide) (by decide) (by simp) rfl (AL.sto A119 O101v (Ins.of_exa c126 (tw hw 149 rfl))) rfl d29_22 rfl ?_
  intro T125 h125 X125 e125 W125 A125
  have N125 := Fr.snoc X125 N123 n_b101
  refine Go.iinc (Ls' := #[.val (.ref v), .val (.ref b101), .val (.int ((3 : Int32) + (1 : Int32)))]) (z := (1 : Int32)) (pc' := 26) C X125 d29_23 rfl rfl rfl rfl ?_
  rw [show ((3 : Int32) + (1 : Int32)) = (4 : Int32) from by decide]
  refine Go.goto (pc' := 8) C X125 d29_26 (by decide) (by decide) ?_
  refine Go.iloadN (pc' := 9) C X125 d29_8 rfl rfl ?_
  refine Go.aloadN (pc' := 10) C X125 d29_9 rfl rfl rfl ?_
  have c127 : AL Z h125 v kv (.object "java/lang/Object") [(.ref d), (.ref d), (.ref d), (.ref d), (.ref d), (.ref d), (.ref d)] := (AL.other W125 c121 ne108)
  refine Go.alen (z := (7 : Int32)) (pc' := 11) C X125 e125 c127 rfl d29_10 rfl ?_
  refine Go.icmpNo (pc' := 14) C X125 d29_11 (tlt (x := (4 : Int32)) (y := (7 : Int32)) (by decide)).2.1 rfl ?_
  refine Go.aloadN (pc' := 15) C X125 d29_14 rfl rfl rfl ?_
  refine Go.iloadN (pc' := 16) C X125 d29_15 rfl rfl ?_
  refine Go.aloadN (pc' := 17) C X125 d29_16 rfl rfl rfl ?_
  refine Go.iloadN (pc' := 18) C X125 d29_17 rfl rfl ?_
  refine Go.ldR (i := 4) (v := (.ref d)) (pc' := 19) C X125 e125 c127 (by decide) (by decide) rfl rfl d29_18 rfl ?_
  have O130 : Ext Z.heap h125 := (Ext.wr O124 W125 n_b101)
  refine Go.callS (y := (⟨"java/util/Objects", "requireNonNull", "(Ljava/lang/Object;)Ljava/lang/Object;"⟩ : MethodName)) (pc' := 22) C X125 (tw hw 204 rfl) (tw hw 205 rfl) (by decide) (rm_rn l Z a0 hw d h125 O130 ) (tw hw 207 rfl) (tw hw 206 rfl) e125 (argsL := [(.ref d)]) (rest := [(.int (4 : Int32)), (.ref b101)]) (W := 2) rfl rfl pd_8 rfl (Nat.le_of_eq rfl) rfl (by decide) (by decide) (by decide) (by decide) d29_19 rfl ?_
  intro T129 v129 L129 X129 q129
  obtain ⟨rfl, rfl, e129⟩ := q129
  have N129 := Fr.app N125 (Fr.nil _)
  have c132 : Exa Z h125 d "com/example/tranche/tranche/journal/DefaultRateChange" := (Exa.wr W125 c126)
  refine Go.stR (i := 4) (vs' := [(.ref d), (.ref d), (.ref d), (.ref d), (.ref d), .null, .null]) (pc' := 23) C X129 e129 A125 (by decide) (by decide) (by simp) rfl (AL.sto A125 O101v (Ins.of_exa c132 (tw hw 149 rfl))) rfl d29_22 rfl ?_
  intro T131 h131 X131 e131 W131 A131
  have N131 := Fr.snoc X131 N129 n_b101
  refine Go.iinc (Ls' := #[.val (.ref v), .val (.ref b101), .val (.int ((4 : Int32) + (1 : Int32)))]) (z := (1 : Int32)) (pc' := 26) C X131 d29_23 rfl rfl rfl rfl ?_
  rw [show ((4 : Int32) + (1 : Int32)) = (5 : Int32) from by decide]
  refine Go.goto (pc' := 8) C X131 d29_26 (by decide) (by decide) ?_
  refine Go.iloadN (pc' := 9) C X131 d29_8 rfl rfl ?_
  refine Go.aloadN (pc' := 10) C X131 d29_9 rfl rfl rfl ?_
  have c133 : AL Z h131 v kv (.object "java/lang/Object") [(.ref d), (.ref d), (.ref d), (.ref d), (.ref d), (.ref d), (.ref d)] := (AL.other W131 c127 ne108)
  refine Go.alen (z := (7 : Int32)) (pc' := 11) C X131 e131 c133 rfl d29_10 rfl ?_
  refine Go.icmpNo (pc' := 14) C X131 d29_11 (tlt (x := (5 : Int32)) (y := (7 : Int32)) (by decide)).2.1 rfl ?_
  refine Go.aloadN (pc' := 15) C X131 d29_14 rfl rfl rfl ?_
  refine Go.iloadN (pc' := 16) C X131 d29_15 rfl rfl ?_
  refine Go.aloadN (pc' := 17) C X131 d29_16 rfl rfl rfl ?_
  refine Go.iloadN (pc' := 18) C X131 d29_17 rfl rfl ?_
  refine Go.ldR (i := 5) (v := (.ref d)) (pc' := 19) C X131 e131 c133 (by decide) (by decide) rfl rfl d29_18 rfl ?_
  have O136 : Ext Z.heap h131 := (Ext.wr O130 W131 n_b101)
  refine Go.callS (y := (⟨"java/util/Objects", "requireNonNull", "(Ljava/lang/Object;)Ljava/lang/Object;"⟩ : MethodName)) (pc' := 22) C X131 (tw hw 204 rfl) (tw hw 205 rfl) (by decide) (rm_rn l Z a0 hw d h131 O136 ) (tw hw 207 rfl) (tw hw 206 rfl) e131 (argsL := [(.ref d)]) (rest := [(.int (5 : Int32)), (.ref b101)]) (W := 2) rfl rfl pd_8 rfl (Nat.le_of_eq rfl) rfl (by decide) (by decide) (by decide) (by decide) d29_19 rfl ?_
  intro T135 v135 L135 X135 q135
  obtain ⟨rfl, rfl, e135⟩ := q135
  have N135 := Fr.app N131 (Fr.nil _)
  have c138 : Exa Z h131 d "com/example/tranche/tranche/journal/DefaultRateChange" := (Exa.wr W131 c132)
  refine Go.stR (i := 5) (vs' := [(.ref d), (.ref d), (.ref d), (.ref d), (.ref d), (.ref d), .null]) (pc' := 23) C X135 e135 A131 (by decide) (by decide) (by simp) rfl (AL.sto A131 O101v (Ins.of_exa c138 (tw hw 149 rfl))) rfl d29_22 rfl ?_
  intro T137 h137 X137 e137 W137 A137
  have N137 := Fr.snoc X137 N135 n_b101
  refine Go.iinc (Ls' := #[.val (.ref v), .val (.ref b101), .val (.int ((5 : Int32) + (1 : Int32)))]) (z := (1 : Int32)) (pc' := 26) C X137 d29_23 rfl rfl rfl rfl ?_
  rw [show ((5 : Int32) + (1 : Int32)) = (6 : Int32) from by decide]
  refine Go.goto (pc' := 8) C X137 d29_26 (by decide) (by decide) ?_
  refine Go.iloadN (pc' := 9) C X137 d29_8 rfl rfl ?_
  refine Go.aloadN (pc' := 10) C X137 d29_9 rfl rfl rfl ?_
  have c139 : AL Z h137 v kv (.object "java/lang/Object") [(.ref d), (.ref d), (.ref d), (.ref d), (.ref d), (.ref d), (.ref d)] := (AL.other W137 c133 ne108)
  refine Go.alen (z := (7 : Int32)) (pc' := 11) C X137 e137 c139 rfl d29_10 rfl ?_
  refine Go.icmpNo (pc' := 14) C X137 d29_11 (tlt (x := (6 : Int32)) (y := (7 : Int32)) (by decide)).2.1 rfl ?_
  refine Go.aloadN (pc' := 15) C X137 d29_14 rfl rfl rfl ?_
  refine Go.iloadN (pc' := 16) C X137 d29_15 rfl rfl ?_
  refine Go.aloadN (pc' := 17) C X137 d29_16 rfl rfl rfl ?_
  refine Go.iloadN (pc' := 18) C X137 d29_17 rfl rfl ?_
  refine Go.ldR (i := 6) (v := (.ref d)) (pc' := 19) C X137 e137 c139 (by decide) (by decide) rfl rfl d29_18 rfl ?_
  have O142 : Ext Z.heap h137 := (Ext.wr O136 W137 n_b101)
  refine Go.callS (y := (⟨"java/util/Objects", "requireNonNull", "(Ljava/lang/Object;)Ljava/lang/Object;"⟩ : MethodName)) (pc' := 22) C X137 (tw hw 204 rfl) (tw hw 205 rfl) (by decide) (rm_rn l Z a0 hw d h137 O142 ) (tw hw 207 rfl) (tw hw 206 rfl) e137 (argsL := [(.ref d)]) (rest := [(.int (6 : Int32)), (.ref b101)]) (W := 2) rfl rfl pd_8 rfl (Nat.le_of_eq rfl) rfl (by decide) (by decide) (by decide) (by decide) d29_19 rfl ?_
  intro T141 v141 L141 X141 q141
  obtain ⟨rfl, rfl, e141⟩ := q141
  have N141 := Fr.app N137 (Fr.nil _)
  have c144 : Exa Z h137 d "com/example/tranche/tranche/journal/DefaultRateChange" := (Exa.wr W137 c138)
  refine Go.stR (i := 6) (vs' := [(.ref d), (.ref d), (.ref d), (.ref d), (.ref d), (.ref d), (.ref d)]) (pc' := 23) C X141 e141 A137 (by decide) (by decide) (by simp) rfl (AL.sto A137 O101v (Ins.of_exa c144 (tw hw 149 rfl))) rfl d29_22 rfl ?_
  intro T143 h143 X143 e143 W143 A143
  have N143 := Fr.snoc X143 N141 n_b101
  refine Go.iinc (Ls' := #[.val (.ref v), .val (.ref b101), .val (.int ((6 : Int32) + (1 : Int32)))]) (z := (1 : Int32)) (pc' := 26) C X143 d29_23 rfl rfl rfl rfl ?_
  rw [show ((6 : Int32) + (1 : Int32)) = (7 : Int32) from by decide]
  refine Go.goto (pc' := 8) C X143 d29_26 (by decide) (by decide) ?_
  refine Go.iloadN (pc' := 9) C X143 d29_8 rfl rfl ?_
  refine Go.aloadN (pc' := 10) C X143 d29_9 rfl rfl rfl ?_
  have c145 : AL Z h143 v kv (.object "java/lang/Object") [(.ref d), (.ref d), (.ref d), (.ref d), (.ref d), (.ref d), (.ref d)] := (AL.other W143 c139 ne108)
  refine Go.alen (z := (7 : Int32)) (pc' := 11) C X143 e143 c145 rfl d29_10 rfl ?_
  refine Go.icmpYes (pc' := 29) C X143 d29_11 (flt (x := (7 : Int32)) (y := (7 : Int32)) (by decide)).2.1 (by decide) (by decide) ?_
  have O148 : Ext Z.heap h143 := (Ext.wr O142 W143 n_b101)
  refine Go.newO (pc' := 32) C X143 (tw hw 99 rfl) (tw hw 208 rfl) (tw hw 163 rfl) e143 (by decide) (by decide) d29_29 rfl ?_
  intro T147 h147 b147 X147 e147 g147 E147 A147 D147
  have n_b147 : Z.heap.size ≤ b147 := Nat.le_trans O148.1 (Nat.le_of_eq g147.symm)
  have z_b147 : h0.size ≤ b147 := Nat.le_trans (Nat.le_trans (Nat.le_trans (Nat.le_trans (Nat.le_trans (Nat.le_trans (Nat.le_trans (Nat.le_trans (Nat.le_trans (Nat.le_refl _) E101.1) (Nat.le_of_eq W106.size.symm)) (Nat.le_of_eq W113.size.symm)) (Nat.le_of_eq W119.size.symm)) (Nat.le_of_eq W125.size.symm)) (Nat.le_of_eq W131.size.symm)) (Nat.le_of_eq W137.size.symm)) (Nat.le_of_eq W143.size.symm)) (Nat.le_of_eq g147.symm)
  have F147_elements : Fld Z h147 b147 "java/util/ImmutableCollections$ListN" "elements" "[Ljava/lang/Object;" .null := D147 (Or.inr (tw hw 166 rfl)) (ty := (.array (.object "java/lang/Object"))) (by decide)
  have F147_allowNulls : Fld Z h147 b147 "java/util/ImmutableCollections$ListN" "allowNulls" "Z" (.int (0 : Int32)) := D147 (Or.inr (tw hw 228 rfl)) (ty := .boolean) (by decide)
  refine Go.dup (pc' := 33) C X147 d29_32 rfl rfl ?_
  refine Go.aloadN (pc' := 34) C X147 d29_33 rfl rfl rfl ?_
  refine Go.iconst (z := (0 : Int32)) (pc' := 35) C X147 d29_34 rfl rfl ?_
  have O150 : Ext Z.heap h147 := (Ext.trans O148 E147)
  refine Go.callIN (y := (⟨"java/util/ImmutableCollections$ListN", "<init>", "([Ljava/lang/Object;Z)V"⟩ : MethodName)) (a := b147) (pc' := 38) C X147 rfl (tw hw 209 rfl) (tw hw 210 rfl) (by decide) (rm_lnI l Z a0 hw b147 b101 h147 O150 A147 F147_elements F147_allowNulls n_b147) (tw hw 212 rfl) (tw hw 163 rfl) e147 (argsL := [(.ref b101), (.int (0 : Int32))]) (rest := [(.ref b147)]) (W := 1) rfl rfl pd_13 rfl (Nat.le_of_eq rfl) rfl (by decide) (by decide) (by decide) (by decide) rfl d29_35 rfl ?_
  intro T149 v149 L149 X149 q149
  obtain ⟨rfl, N149q, K149, P149_0⟩ := q149
  have N149 := Fr.app N143 N149q
  have K151 : Keep h0 T149.heap [] := (((((((((((Keep.refl h0 []).ext E101).wr W106 (Or.inr z_b101)).wr W113 (Or.inr z_b101)).wr W119 (Or.inr z_b101)).wr W125 (Or.inr z_b101)).wr W131 (Or.inr z_b101)).wr W137 (Or.inr z_b101)).wr W143 (Or.inr z_b101)).ext E147).trans K149 (allS (Or.inr z_b147) all0))
  have c152 : Exa Z T149.heap b147 "java/util/ImmutableCollections$ListN" := (Exa.keep A147 K149)
  have ne153 : b101 ≠ b147 := Nat.ne_of_lt (Nat.lt_of_lt_of_le A101.lt (Nat.le_trans (Nat.le_trans (Nat.le_trans (Nat.le_trans (Nat.le_trans (Nat.le_trans (Nat.le_trans (Nat.le_trans (Nat.le_refl _) (Nat.le_of_eq W106.size.symm)) (Nat.le_of_eq W113.size.symm)) (Nat.le_of_eq W119.size.symm)) (Nat.le_of_eq W125.size.symm)) (Nat.le_of_eq W131.size.symm)) (Nat.le_of_eq W137.size.symm)) (Nat.le_of_eq W143.size.symm)) (Nat.le_of_eq g147.symm)))
  have c154 : AL Z T149.heap b101 k101 (.object "java/lang/Object") [(.ref d), (.ref d), (.ref d), (.ref d), (.ref d), (.ref d), (.ref d)] := (AL.keep (AL.ext E147 A143) K149 (ninS ne153 nin0))
  exact Go.retA C X149 rfl d29_38 rfl rfl rfl ⟨b147, b101, k101, rfl, N149, K151, z_b147, z_b101, c152, P149_0, c154⟩ (by decide) (by decide)
def Q_lof7 (Z : State) (d : Addr) (v : Addr) (kv : ClassId) (h0 : Heap) (rv : Option Value) (h : Heap) (L : List Loc) : Prop := ∃ r : Addr, ∃ q : Addr, ∃ kq : ClassId, rv = some (.ref r) ∧ Fr Z.heap.size L ∧ Keep h0 h [] ∧ h0.size ≤ r ∧ h0.size ≤ q ∧ Exa Z h r "java/util/ImmutableCollections$ListN" ∧ Fld Z h r "java/util/ImmutableCollections$ListN" "elements" "[Ljava/lang/Object;" (.ref q) ∧ AL Z h q kq (.object "java/lang/Object") [(.ref d), (.ref d), (.ref d), (.ref d), (.ref d), (.ref d), (.ref d)]
set_option maxRecDepth 65536 in
set_option maxHeartbeats 40000000 in
theorem rm_lof7 (l : Launch) (Z : State) (a0 : Array Value) (hw : ∀ d ∈ tables_1, d.before a0 Z = true) (d : Addr) (v : Addr) (kv : ClassId) (h0 : Heap) (O0 : Ext Z.heap h0) (Av : AL Z h0 v kv (.object "java/lang/Object") [(.ref d), (.ref d), (.ref d), (.ref d), (.ref d), (.ref d), (.ref d)]) (Ed : Exa Z h0 d "com/example/tranche/tranche/journal/DefaultRateChange") :
    Met1 l Z (⟨"java/util/List", "of", "([Ljava/lang/Object;)Ljava/util/List;"⟩ : MethodName) jdk_40_method_47_code 2 (some (.object "java/util/List")) ({ frames := 6, cells := 2, slots := 9, locals := 77 } : Room) #[(.ref v)] h0 (Q_lof7 Z d v kv h0) := by
  refine Met1.of_body (Ls := #[.val (.ref v), .unset]) pf_28 (fun m => by first | (simp [entryFrame, mkF, argsToLocals, Value.category]; done) | rfl) ?_
  intro p e s m below meth c T0 C X0 e0
  have N0 : Fr Z.heap.size [] := Fr.nil _
  refine Go.aloadN (pc' := 1) C X0 d28_0 rfl rfl rfl ?_
  refine Go.alen (z := (7 : Int32)) (pc' := 2) C X0 e0 Av rfl d28_1 rfl ?_
  refine Go.tswOut (pc' := 59) C X0 d28_2 (by decide) (by decide) (by decide) ?_
  refine Go.aloadN (pc' := 60) C X0 d28_59 rfl rfl rfl ?_
  refine Go.callS (y := (⟨"java/util/ImmutableCollections", "listFromArray", "([Ljava/lang/Object;)Ljava/util/List;"⟩ : MethodName)) (pc' := 63) C X0 (tw hw 200 rfl) (tw hw 201 rfl) (by decide) (rm_lfa7 l Z a0 hw d v kv h0 O0 Av Ed) (tw hw 202 rfl) (tw hw 92 rfl) e0 (argsL := [(.ref v)]) (rest := []) (W := 0) rfl rfl pd_14 rfl (Nat.le_of_eq rfl) rfl (by decide) (by decide) (by decide) (by decide) d28_60 rfl ?_
  intro T101 v101 L101 X101 q101
  obtain ⟨r_101, q_101, kq_101, rfl, N101q, K101, B101_0, B101_1, P101_0, P101_1, P101_2⟩ := q101
  have N101 := Fr.app N0 N101q
  have n_r_101 : Z.heap.size ≤ r_101 := Nat.le_trans O0.1 B101_0
  have z_r_101 : h0.size ≤ r_101 := Nat.le_trans (Nat.le_refl _) B101_0
  have n_q_101 : Z.heap.size ≤ q_101 := Nat.le_trans O0.1 B101_1
  have z_q_101 : h0.size ≤ q_101 := Nat.le_trans (Nat.le_refl _) B101_1
  have K102 : Keep h0 T101.heap [] := ((Keep.refl h0 []).trans K101 all0)
  exact Go.retA C X101 rfl d28_63 rfl rfl rfl ⟨r_101, q_101, kq_101, rfl, N101, K102, z_r_101, z_q_101, P101_0, P101_1, P101_2⟩ (by decide) (by decide)
theorem pd_15 : parseMethodDescriptor "()Z" = some ⟨[], some .boolean⟩ := by decide +kernel
theorem pd_16 : parseMethodDescriptor "()Ljava/util/List;" = some ⟨[], some (.object "java/util/List")⟩ := by decide +kernel
theorem pf_14 : plainFor (⟨"java/util/ImmutableCollections", "listCopy", "(Ljava/util/Collection;)Ljava/util/List;"⟩ : MethodName) = true := plainFor_of_name (by first | (simp [plainName, overriddenIn]; done) | decide +kernel)
theorem d14_0 : decode jdk_56_method_3_code 0 = .ok (.aload_n 0, 1) := by decide +kernel
theorem d14_1 : decode jdk_56_method_3_code 1 = .ok (.instanceof 10, 3) := by decide +kernel
theorem d14_4 : decode jdk_56_method_3_code 4 = .ok (.ifCond .ne 22, 3) := by decide +kernel
theorem d14_7 : decode jdk_56_method_3_code 7 = .ok (.aload_n 0, 1) := by decide +kernel
theorem d14_8 : decode jdk_56_method_3_code 8 = .ok (.instanceof 12, 3) := by decide +kernel
theorem d14_11 : decode jdk_56_method_3_code 11 = .ok (.ifCond .eq 20, 3) := by decide +kernel
theorem d14_31 : decode jdk_56_method_3_code 31 = .ok (.aload_n 0, 1) := by decide +kernel
theorem d14_32 : decode jdk_56_method_3_code 32 = .ok (.invokeinterface 20 1, 5) := by decide +kernel
theorem d14_37 : decode jdk_56_method_3_code 37 = .ok (.ifCond .eq 7, 3) := by decide +kernel
theorem d14_40 : decode jdk_56_method_3_code 40 = .ok (.invokestatic 26, 3) := by decide +kernel
theorem d14_43 : decode jdk_56_method_3_code 43 = .ok (.areturn, 1) := by decide +kernel
def Q_lc0 (Z : State) (a : Addr) (dc : Addr) (el : Addr) (h0 : Heap) (rv : Option Value) (h : Heap) (L : List Loc) : Prop := rv = some (.ref el) ∧ L = [] ∧ h = h0
set_option maxRecDepth 65536 in
set_option maxHeartbeats 40000000 in
theorem rm_lc0 (l : Launch) (Z : State) (a0 : Array Value) (hw : ∀ d ∈ tables_1, d.before a0 Z = true) (a : Addr) (dc : Addr) (el : Addr) (h0 : Heap) (O0 : Ext Z.heap h0) (Ea : Exa Z h0 a "java/util/ArrayList") (Fe : Fld Z h0 a "java/util/ArrayList" "elementData" "[Ljava/lang/Object;" (.ref dc)) (Fs : Fld Z h0 a "java/util/ArrayList" "size" "I" (.int (0 : Int32))) (SL : Sta Z Z.heap "java/util/ImmutableCollections" "EMPTY_LIST" "Ljava/util/ImmutableCollections$ListN;" (.ref el)) :
    Met1 l Z (⟨"java/util/ImmutableCollections", "listCopy", "(Ljava/util/Collection;)Ljava/util/List;"⟩ : MethodName) jdk_56_method_3_code 2 (some (.object "java/util/List")) ({ frames := 1, cells := 0, slots := 0, locals := 12 } : Room) #[(.ref a)] h0 (Q_lc0 Z a dc el h0) := by
  refine Met1.of_body (Ls := #[.val (.ref a), .unset]) pf_14 (fun m => by first | (simp [entryFrame, mkF, argsToLocals, Value.category]; done) | rfl) ?_
  intro p e s m below meth c T0 C X0 e0
  have N0 : Fr Z.heap.size [] := Fr.nil _
  refine Go.aloadN (pc' := 1) C X0 d14_0 rfl rfl rfl ?_
  refine Go.instNo (pc' := 4) C X0 (tw hw 94 rfl) e0 Ea (NS.noI (tw hw 95 rfl) (tw hw 230 rfl) (NS.step (tw hw 95 rfl) (NS.step (tw hw 96 rfl) (NS.step (tw hw 97 rfl) (NS.rootI (tw hw 98 rfl) (tw hw 230 rfl) (by decide)) (by decide)) (by decide)) (by decide)) (by decide)) d14_1 rfl ?_
  intro T101 X101 e101
  refine Go.ifNo (pc' := 7) C X101 d14_4 ((if0 _ _).trans (teq (x := (0 : Int32)) (y := (0 : Int32)) (by decide)).2) rfl ?_
  refine Go.aloadN (pc' := 8) C X101 d14_7 rfl rfl rfl ?_
  refine Go.instNo (pc' := 11) C X101 (tw hw 99 rfl) e101 Ea (NS.noI (tw hw 95 rfl) (tw hw 208 rfl) (NS.step (tw hw 95 rfl) (NS.step (tw hw 96 rfl) (NS.step (tw hw 97 rfl) (NS.rootI (tw hw 98 rfl) (tw hw 208 rfl) (by decide)) (by decide)) (by decide)) (by decide)) (by decide)) d14_8 rfl ?_
  intro T103 X103 e103
  refine Go.ifYes (pc' := 31) C X103 d14_11 ((if0 _ _).trans (teq (x := (0 : Int32)) (y := (0 : Int32)) (by decide)).1) (by decide) (by decide) ?_
  refine Go.aloadN (pc' := 32) C X103 d14_31 rfl rfl rfl ?_
  refine Go.callF (y := (⟨"java/util/Collection", "isEmpty", "()Z"⟩ : MethodName)) (z := (⟨"java/util/ArrayList", "isEmpty", "()Z"⟩ : MethodName)) (a := a) (pc' := 37) C X103 (tw hw 100 rfl) (tw hw 101 rfl) (tw hw 102 rfl) (tw hw 103 rfl) (tw hw 104 rfl) (tw hw 105 rfl) (tw hw 106 rfl) (tw hw 107 rfl) rfl Ea (by decide) (rm_emp0 l Z a0 hw a h0 O0 Fs) (tw hw 108 rfl) (tw hw 57 rfl) e103 (argsL := []) (rest := []) (W := 0) rfl rfl pd_15 rfl (Nat.le_of_eq rfl) rfl (by decide) (by decide) (by decide) (by decide) d14_32 rfl ?_
  intro T105 v105 L105 X105 q105
  obtain ⟨rfl, rfl, e105⟩ := q105
  have N105 := Fr.app N0 (Fr.nil _)
  refine Go.ifNo (pc' := 40) C X105 d14_37 ((if0 _ _).trans (feq (x := (1 : Int32)) (y := (0 : Int32)) (by decide)).1) rfl ?_
  refine Go.callS (y := (⟨"java/util/List", "of", "()Ljava/util/List;"⟩ : MethodName)) (pc' := 43) C X105 (tw hw 111 rfl) (tw hw 112 rfl) (by decide) (rm_lof0 l Z a0 hw el h0 O0 SL) (tw hw 113 rfl) (tw hw 88 rfl) e105 (argsL := []) (rest := []) (W := 0) rfl rfl pd_16 rfl (Nat.le_of_eq rfl) rfl (by decide) (by decide) (by decide) (by decide) d14_40 rfl ?_
  intro T107 v107 L107 X107 q107
  obtain ⟨rfl, rfl, e107⟩ := q107
  have N107 := Fr.app N105 (Fr.nil _)
  exact Go.retA C X107 rfl d14_43 rfl rfl rfl (by rw [e107]; exact ⟨rfl, (by simp), rfl⟩) (by decide) (by decide)
theorem pd_17 : parseMethodDescriptor "(Ljava/util/Collection;)Ljava/util/List;" = some ⟨[(.object "java/util/Collection")], some (.object "java/util/List")⟩ := by decide +kernel
theorem pf_13 : plainFor (⟨"java/util/List", "copyOf", "(Ljava/util/Collection;)Ljava/util/List;"⟩ : MethodName) = true := plainFor_of_name (by first | (simp [plainName, overriddenIn]; done) | decide +kernel)
theorem d13_0 : decode jdk_40_method_48_code 0 = .ok (.aload_n 0, 1) := by decide +kernel
theorem d13_1 : decode jdk_40_method_48_code 1 = .ok (.invokestatic 112, 3) := by decide +kernel
theorem d13_4 : decode jdk_40_method_48_code 4 = .ok (.areturn, 1) := by decide +kernel
def Q_lco0 (Z : State) (a : Addr) (dc : Addr) (el : Addr) (h0 : Heap) (rv : Option Value) (h : Heap) (L : List Loc) : Prop := rv = some (.ref el) ∧ L = [] ∧ h = h0
set_option maxRecDepth 65536 in
set_option maxHeartbeats 40000000 in
theorem rm_lco0 (l : Launch) (Z : State) (a0 : Array Value) (hw : ∀ d ∈ tables_1, d.before a0 Z = true) (a : Addr) (dc : Addr) (el : Addr) (h0 : Heap) (O0 : Ext Z.heap h0) (Ea : Exa Z h0 a "java/util/ArrayList") (Fe : Fld Z h0 a "java/util/ArrayList" "elementData" "[Ljava/lang/Object;" (.ref dc)) (Fs : Fld Z h0 a "java/util/ArrayList" "size" "I" (.int (0 : Int32))) (SL : Sta Z Z.heap "java/util/ImmutableCollections" "EMPTY_LIST" "Ljava/util/ImmutableCollections$ListN;" (.ref el)) :
    Met1 l Z (⟨"java/util/List", "copyOf", "(Ljava/util/Collection;)Ljava/util/List;"⟩ : MethodName) jdk_40_method_48_code 1 (some (.object "java/util/List")) ({ frames := 2, cells := 0, slots := 0, locals := 25 } : Room) #[(.ref a)] h0 (Q_lco0 Z a dc el h0) := by
  refine Met1.of_body (Ls := #[.val (.ref a)]) pf_13 (fun m => by first | (simp [entryFrame, mkF, argsToLocals, Value.category]; done) | rfl) ?_
  intro p e s m below meth c T0 C X0 e0
  have N0 : Fr Z.heap.size [] := Fr.nil _
  refine Go.aloadN (pc' := 1) C X0 d13_0 rfl rfl rfl ?_
  refine Go.callS (y := (⟨"java/util/ImmutableCollections", "listCopy", "(Ljava/util/Collection;)Ljava/util/List;"⟩ : MethodName)) (pc' := 4) C X0 (tw hw 90 rfl) (tw hw 91 rfl) (by decide) (rm_lc0 l Z a0 hw a dc el h0 O0 Ea Fe Fs SL) (tw hw 93 rfl) (tw hw 92 rfl) e0 (argsL := [(.ref a)]) (rest := []) (W := 0) rfl rfl pd_17 rfl (Nat.le_of_eq rfl) rfl (by decide) (by decide) (by decide) (by decide) d13_1 rfl ?_
  intro T101 v101 L101 X101 q101
  obtain ⟨rfl, rfl, e101⟩ := q101
  have N101 := Fr.app N0 (Fr.nil _)
  exact Go.retA C X101 rfl d13_4 rfl rfl rfl (by rw [e101]; exact ⟨rfl, (by simp), rfl⟩) (by decide) (by decide)
theorem pf_12 : plainFor (⟨"com/example/tranche/tranche/journal/Journal", "<init>", "(Ljava/lang/String;Ljava/util/List;Z)V"⟩ : MethodName) = true := plainFor_of_name (by first | (simp [plainName, overriddenIn]; done) | decide +kernel)
theorem d12_0 : decode prog_35_method_1_code 0 = .ok (.aload_n 0, 1) := by decide +kernel
theorem d12_1 : decode prog_35_method_1_code 1 = .ok (.invokespecial 1, 3) := by decide +kernel
theorem d12_4 : decode prog_35_method_1_code 4 = .ok (.aload_n 2, 1) := by decide +kernel
theorem d12_5 : decode prog_35_method_1_code 5 = .ok (.invokestatic 7, 3) := by decide +kernel
theorem d12_8 : decode prog_35_method_1_code 8 = .ok (.astore_n 2, 1) := by decide +kernel
theorem d12_9 : decode prog_35_method_1_code 9 = .ok (.aload_n 0, 1) := by decide +kernel
theorem d12_10 : decode prog_35_method_1_code 10 = .ok (.aload_n 1, 1) := by decide +kernel
theorem d12_11 : decode prog_35_method_1_code 11 = .ok (.putfield 13, 3) := by decide +kernel
theorem d12_14 : decode prog_35_method_1_code 14 = .ok (.aload_n 0, 1) := by decide +kernel
theorem d12_15 : decode prog_35_method_1_code 15 = .ok (.aload_n 2, 1) := by decide +kernel
theorem d12_16 : decode prog_35_method_1_code 16 = .ok (.putfield 19, 3) := by decide +kernel
theorem d12_19 : decode prog_35_method_1_code 19 = .ok (.aload_n 0, 1) := by decide +kernel
theorem d12_20 : decode prog_35_method_1_code 20 = .ok (.iload_n 3, 1) := by decide +kernel
theorem d12_21 : decode prog_35_method_1_code 21 = .ok (.putfield 23, 3) := by decide +kernel
theorem d12_24 : decode prog_35_method_1_code 24 = .ok (.return_, 1) := by decide +kernel
def Q_jI0 (Z : State) (j : Addr) (sr : Addr) (x0 : Int32) (a : Addr) (dc : Addr) (el : Addr) (h0 : Heap) (rv : Option Value) (h : Heap) (L : List Loc) : Prop := rv = none ∧ Fr Z.heap.size L ∧ Keep h0 h [j] ∧ Fld Z h j "com/example/tranche/tranche/journal/Journal" "events" "Ljava/util/List;" (.ref el)
set_option maxRecDepth 65536 in
set_option maxHeartbeats 40000000 in
theorem rm_jI0 (l : Launch) (Z : State) (a0 : Array Value) (hw : ∀ d ∈ tables_1, d.before a0 Z = true) (j : Addr) (sr : Addr) (x0 : Int32) (a : Addr) (dc : Addr) (el : Addr) (h0 : Heap) (O0 : Ext Z.heap h0) (E0 : Exa Z h0 j "com/example/tranche/tranche/journal/Journal") (F1 : Fld Z h0 j "com/example/tranche/tranche/journal/Journal" "source" "Ljava/lang/String;" .null) (F2 : Fld Z h0 j "com/example/tranche/tranche/journal/Journal" "events" "Ljava/util/List;" .null) (F3 : Fld Z h0 j "com/example/tranche/tranche/journal/Journal" "incomplete" "Z" (.int (0 : Int32))) (Ea : Exa Z h0 a "java/util/ArrayList") (Fe : Fld Z h0 a "java/util/ArrayList" "elementData" "[Ljava/lang/Object;" (.ref dc)) (Fs : Fld Z h0 a "java/util/ArrayList" "size" "I" (.int (0 : Int32))) (SL : Sta Z Z.heap "java/util/ImmutableCollections" "EMPTY_LIST" "Ljava/util/ImmutableCollections$ListN;" (.ref el)) (hn : Z.heap.size ≤ j) :
    Met1 l Z (⟨"com/example/tranche/tranche/journal/Journal", "<init>", "(Ljava/lang/String;Ljava/util/List;Z)V"⟩ : MethodName) prog_35_method_1_code 4 none ({ frames := 3, cells := 0, slots := 0, locals := 37 } : Room) #[(.ref j), (.ref sr), (.ref a), (.int x0)] h0 (Q_jI0 Z j sr x0 a dc el h0) := by
  refine Met1.of_body (Ls := #[.val (.ref j), .val (.ref sr), .val (.ref a), .val (.int x0)]) pf_12 (fun m => by first | (simp [entryFrame, mkF, argsToLocals, Value.category]; done) | rfl) ?_
  intro p e s m below meth c T0 C X0 e0
  have N0 : Fr Z.heap.size [] := Fr.nil _
  refine Go.aloadN (pc' := 1) C X0 d12_0 rfl rfl rfl ?_
  refine Go.callI (y := (⟨"java/lang/Record", "<init>", "()V"⟩ : MethodName)) (a := j) (pc' := 4) C X0 rfl (tw hw 85 rfl) (tw hw 36 rfl) (by decide) (rm_rec l Z a0 hw j h0 O0 ) (tw hw 39 rfl) (tw hw 38 rfl) e0 (argsL := []) (rest := []) (W := 0) rfl rfl pd_3 rfl (Nat.le_of_eq rfl) rfl (by decide) (by decide) (by decide) (by decide) rfl d12_1 rfl ?_
  intro T101 v101 L101 X101 q101
  obtain ⟨rfl, rfl, e101⟩ := q101
  have N101 := Fr.app N0 (Fr.nil _)
  refine Go.aloadN (pc' := 5) C X101 d12_4 rfl rfl rfl ?_
  refine Go.callS (y := (⟨"java/util/List", "copyOf", "(Ljava/util/Collection;)Ljava/util/List;"⟩ : MethodName)) (pc' := 8) C X101 (tw hw 86 rfl) (tw hw 87 rfl) (by decide) (rm_lco0 l Z a0 hw a dc el h0 O0 Ea Fe Fs SL) (tw hw 89 rfl) (tw hw 88 rfl) e101 (argsL := [(.ref a)]) (rest := []) (W := 0) rfl rfl pd_17 rfl (Nat.le_of_eq rfl) rfl (by decide) (by decide) (by decide) (by decide) d12_5 rfl ?_
  intro T102 v102 L102 X102 q102
  obtain ⟨rfl, rfl, e102⟩ := q102
  have N102 := Fr.app N101 (Fr.nil _)
  refine Go.astoreN (Ls' := #[.val (.ref j), .val (.ref sr), .val (.ref el), .val (.int x0)]) (pc' := 9) C X102 d12_8 rfl rfl rfl ?_
  refine Go.aloadN (pc' := 10) C X102 d12_9 rfl rfl rfl ?_
  refine Go.aloadN (pc' := 11) C X102 d12_10 rfl rfl rfl ?_
  refine Go.putF (pc' := 14) (host := "") (ty := (.object "java/lang/String")) C X102 (Or.inl (tw hw 115 rfl)) Via.refl e102 F1 E0 (Or.inr ⟨(tw hw 116 rfl), rfl, rfl⟩) (tw hw 80 rfl) (by decide) rfl rfl d12_11 rfl ?_
  intro T103 h103 X103 e103 W103 F103
  have N103 := Fr.snoc X103 N102 hn
  refine Go.aloadN (pc' := 15) C X103 d12_14 rfl rfl rfl ?_
  refine Go.aloadN (pc' := 16) C X103 d12_15 rfl rfl rfl ?_
  have c105 : Fld Z h103 j "com/example/tranche/tranche/journal/Journal" "events" "Ljava/util/List;" .null := (Fld.other W103 F2 (Or.inr (slot_ne (Or.inr (tw hw 118 rfl)) (Or.inr (tw hw 116 rfl)) (by decide) (t := (.object "java/util/List")) (t' := (.object "java/lang/String")) (by decide) (by decide))))
  have c106 : Exa Z h103 j "com/example/tranche/tranche/journal/Journal" := (Exa.wr W103 E0)
  refine Go.putF (pc' := 19) (host := "") (ty := (.object "java/util/List")) C X103 (Or.inl (tw hw 117 rfl)) Via.refl e103 c105 c106 (Or.inr ⟨(tw hw 118 rfl), rfl, rfl⟩) (tw hw 80 rfl) (by decide) rfl rfl d12_16 rfl ?_
  intro T104 h104 X104 e104 W104 F104
  have N104 := Fr.snoc X104 N103 hn
  refine Go.aloadN (pc' := 20) C X104 d12_19 rfl rfl rfl ?_
  refine Go.iloadN (pc' := 21) C X104 d12_20 rfl rfl ?_
  have c108 : Fld Z h104 j "com/example/tranche/tranche/journal/Journal" "incomplete" "Z" (.int (0 : Int32)) := (Fld.other W104 (Fld.other W103 F3 (Or.inr (slot_ne (Or.inr (tw hw 120 rfl)) (Or.inr (tw hw 116 rfl)) (by decide) (t := .boolean) (t' := (.object "java/lang/String")) (by decide) (by decide)))) (Or.inr (slot_ne (Or.inr (tw hw 120 rfl)) (Or.inr (tw hw 118 rfl)) (by decide) (t := .boolean) (t' := (.object "java/util/List")) (by decide) (by decide))))
  have c109 : Exa Z h104 j "com/example/tranche/tranche/journal/Journal" := (Exa.wr W104 c106)
  refine Go.putFN (pc' := 24) (ty := .boolean) (v' := .int (nar .boolean x0)) C X104 (tw hw 119 rfl) Via.refl e104 c108 c109 (Or.inr ⟨(tw hw 120 rfl), rfl, rfl⟩) (tw hw 80 rfl) (by decide) rfl (fits_nar_bool _) d12_21 rfl ?_
  intro T107 h107 X107 e107 W107 F107
  have N107 := Fr.snoc X107 N104 hn
  have K110 : Keep h0 h107 [j] := ((((Keep.refl h0 [j]).wr W103 (Or.inl (by simp))).wr W104 (Or.inl (by simp))).wr W107 (Or.inl (by simp)))
  have c111 : Fld Z h107 j "com/example/tranche/tranche/journal/Journal" "events" "Ljava/util/List;" (.ref el) := (Fld.other W107 F104 (Or.inr (slot_ne (Or.inr (tw hw 118 rfl)) (Or.inr (tw hw 120 rfl)) (by decide) (t := (.object "java/util/List")) (t' := .boolean) (by decide) (by decide))))
  exact Go.retV C X107 rfl d12_24 (by rw [e107]; exact ⟨rfl, N107, K110, c111⟩) (by decide) (by decide)
theorem pf_23 : plainFor (⟨"java/util/ImmutableCollections$ListN", "size", "()I"⟩ : MethodName) = true := plainFor_of_name (by first | (simp [plainName, overriddenIn]; done) | decide +kernel)
theorem d23_0 : decode jdk_45_method_3_code 0 = .ok (.aload_n 0, 1) := by decide +kernel
theorem d23_1 : decode jdk_45_method_3_code 1 = .ok (.getfield 7, 3) := by decide +kernel
theorem d23_4 : decode jdk_45_method_3_code 4 = .ok (.arraylength, 1) := by decide +kernel
theorem d23_5 : decode jdk_45_method_3_code 5 = .ok (.ireturn, 1) := by decide +kernel
def Q_sz0 (Z : State) (r : Addr) (q : Addr) (kq : ClassId) (h0 : Heap) (rv : Option Value) (h : Heap) (L : List Loc) : Prop := rv = some (.int (0 : Int32)) ∧ L = [] ∧ h = h0
set_option maxRecDepth 65536 in
set_option maxHeartbeats 40000000 in
theorem rm_sz0 (l : Launch) (Z : State) (a0 : Array Value) (hw : ∀ d ∈ tables_1, d.before a0 Z = true) (r : Addr) (q : Addr) (kq : ClassId) (h0 : Heap) (O0 : Ext Z.heap h0) (Er : Exa Z Z.heap r "java/util/ImmutableCollections$ListN") (Fr_ : Fld Z Z.heap r "java/util/ImmutableCollections$ListN" "elements" "[Ljava/lang/Object;" (.ref q)) (Aq : AL Z Z.heap q kq (.object "java/lang/Object") []) :
    Met1 l Z (⟨"java/util/ImmutableCollections$ListN", "size", "()I"⟩ : MethodName) jdk_45_method_3_code 1 (some .int) ({ frames := 0, cells := 0, slots := 0, locals := 0 } : Room) #[(.ref r)] h0 (Q_sz0 Z r q kq h0) := by
  refine Met1.of_body (Ls := #[.val (.ref r)]) pf_23 (fun m => by first | (simp [entryFrame, mkF, argsToLocals, Value.category]; done) | rfl) ?_
  intro p e s m below meth c T0 C X0 e0
  have N0 : Fr Z.heap.size [] := Fr.nil _
  refine Go.aloadN (pc' := 1) C X0 d23_0 rfl rfl rfl ?_
  refine Go.getF (pc' := 4) (host := "") C X0 (Or.inl (tw hw 165 rfl)) Via.refl e0 (Fr_.ext O0) d23_1 rfl ?_
  intro T101 X101 e101
  refine Go.alen (z := (0 : Int32)) (pc' := 5) C X101 e101 (Aq.ext O0) rfl d23_4 rfl ?_
  exact Go.retI C X101 rfl d23_5 (by rw [e101]; exact ⟨rfl, rfl, rfl⟩) (by decide) (by decide)
theorem pd_18 : parseMethodDescriptor "()I" = some ⟨[], some .int⟩ := by decide +kernel
theorem pf_22 : plainFor (⟨"com/example/tranche/tranche/journal/Journal", "nextLine", "()I"⟩ : MethodName) = true := plainFor_of_name (by first | (simp [plainName, overriddenIn]; done) | decide +kernel)
theorem d22_0 : decode prog_35_method_2_code 0 = .ok (.aload_n 0, 1) := by decide +kernel
theorem d22_1 : decode prog_35_method_2_code 1 = .ok (.getfield 19, 3) := by decide +kernel
theorem d22_4 : decode prog_35_method_2_code 4 = .ok (.invokeinterface 27 1, 5) := by decide +kernel
theorem d22_9 : decode prog_35_method_2_code 9 = .ok (.iconst 1, 1) := by decide +kernel
theorem d22_10 : decode prog_35_method_2_code 10 = .ok (.iadd, 1) := by decide +kernel
theorem d22_11 : decode prog_35_method_2_code 11 = .ok (.ireturn, 1) := by decide +kernel
def Q_nl0 (Z : State) (j : Addr) (r : Addr) (q : Addr) (kq : ClassId) (h0 : Heap) (rv : Option Value) (h : Heap) (L : List Loc) : Prop := rv = some (.int (1 : Int32)) ∧ L = [] ∧ h = h0
set_option maxRecDepth 65536 in
set_option maxHeartbeats 40000000 in
theorem rm_nl0 (l : Launch) (Z : State) (a0 : Array Value) (hw : ∀ d ∈ tables_1, d.before a0 Z = true) (j : Addr) (r : Addr) (q : Addr) (kq : ClassId) (h0 : Heap) (O0 : Ext Z.heap h0) (F2 : Fld Z h0 j "com/example/tranche/tranche/journal/Journal" "events" "Ljava/util/List;" (.ref r)) (Er : Exa Z Z.heap r "java/util/ImmutableCollections$ListN") (Fr_ : Fld Z Z.heap r "java/util/ImmutableCollections$ListN" "elements" "[Ljava/lang/Object;" (.ref q)) (Aq : AL Z Z.heap q kq (.object "java/lang/Object") []) :
    Met1 l Z (⟨"com/example/tranche/tranche/journal/Journal", "nextLine", "()I"⟩ : MethodName) prog_35_method_2_code 1 (some .int) ({ frames := 1, cells := 0, slots := 0, locals := 12 } : Room) #[(.ref j)] h0 (Q_nl0 Z j r q kq h0) := by
  refine Met1.of_body (Ls := #[.val (.ref j)]) pf_22 (fun m => by first | (simp [entryFrame, mkF, argsToLocals, Value.category]; done) | rfl) ?_
  intro p e s m below meth c T0 C X0 e0
  have N0 : Fr Z.heap.size [] := Fr.nil _
  refine Go.aloadN (pc' := 1) C X0 d22_0 rfl rfl rfl ?_
  refine Go.getF (pc' := 4) (host := "") C X0 (Or.inl (tw hw 117 rfl)) Via.refl e0 F2 d22_1 rfl ?_
  intro T101 X101 e101
  refine Go.callF (y := (⟨"java/util/List", "size", "()I"⟩ : MethodName)) (z := (⟨"java/util/ImmutableCollections$ListN", "size", "()I"⟩ : MethodName)) (a := r) (pc' := 9) C X101 (tw hw 155 rfl) (tw hw 156 rfl) (tw hw 157 rfl) (tw hw 158 rfl) (tw hw 159 rfl) (tw hw 160 rfl) (tw hw 161 rfl) (tw hw 162 rfl) rfl (Exa.ext O0 Er) (by decide) (rm_sz0 l Z a0 hw r q kq h0 O0 Er Fr_ Aq) (tw hw 164 rfl) (tw hw 163 rfl) e101 (argsL := []) (rest := []) (W := 0) rfl rfl pd_18 rfl (Nat.le_of_eq rfl) rfl (by decide) (by decide) (by decide) (by decide) d22_4 rfl ?_
  intro T102 v102 L102 X102 q102
  obtain ⟨rfl, rfl, e102⟩ := q102
  have N102 := Fr.app N0 (Fr.nil _)
  refine Go.iconst (z := (1 : Int32)) (pc' := 10) C X102 d22_9 rfl rfl ?_
  refine Go.iadd (pc' := 11) C X102 d22_10 rfl ?_
  rw [show ((0 : Int32) + (1 : Int32)) = (1 : Int32) from by decide]
  exact Go.retI C X102 rfl d22_11 (by rw [e102]; exact ⟨rfl, (by simp), rfl⟩) (by decide) (by decide)
theorem d14_44 : decode jdk_56_method_3_code 44 = .ok (.aload_n 0, 1) := by decide +kernel
theorem d14_45 : decode jdk_56_method_3_code 45 = .ok (.invokeinterface 30 1, 5) := by decide +kernel
theorem d14_50 : decode jdk_56_method_3_code 50 = .ok (.invokestatic 34, 3) := by decide +kernel
theorem d14_53 : decode jdk_56_method_3_code 53 = .ok (.areturn, 1) := by decide +kernel
def Q_lc1 (Z : State) (a : Addr) (d : Addr) (w : Addr) (kw : ClassId) (mr : Addr) (em : Addr) (h0 : Heap) (rv : Option Value) (h : Heap) (L : List Loc) : Prop := ∃ r : Addr, rv = some (.ref r) ∧ Fr Z.heap.size L ∧ Keep h0 h [] ∧ h0.size ≤ r ∧ Exa Z h r "java/util/ImmutableCollections$List12" ∧ Fld Z h r "java/util/ImmutableCollections$List12" "e1" "Ljava/lang/Object;" (.ref em)
set_option maxRecDepth 65536 in
set_option maxHeartbeats 40000000 in
theorem rm_lc1 (l : Launch) (Z : State) (a0 : Array Value) (hw : ∀ d ∈ tables_1, d.before a0 Z = true) (a : Addr) (d : Addr) (w : Addr) (kw : ClassId) (mr : Addr) (em : Addr) (h0 : Heap) (O0 : Ext Z.heap h0) (Ea : Exa Z h0 a "java/util/ArrayList") (Fe : Fld Z h0 a "java/util/ArrayList" "elementData" "[Ljava/lang/Object;" (.ref w)) (Fs : Fld Z h0 a "java/util/ArrayList" "size" "I" (.int (1 : Int32))) (Ew : Exa Z h0 w "[Ljava/lang/Object;") (Aw : AL Z h0 w kw (.object "java/lang/Object") [(.ref d), .null, .null, .null, .null, .null, .null, .null, .null, .null]) (Ed : Exa Z h0 d "com/example/tranche/tranche/journal/DefaultRateChange") (SE : Sta Z Z.heap "java/util/ImmutableCollections" "EMPTY" "Ljava/lang/Object;" (.ref em)) (hM : Mir Z "[Ljava/lang/Object;" mr) :
    Met1 l Z (⟨"java/util/ImmutableCollections", "listCopy", "(Ljava/util/Collection;)Ljava/util/List;"⟩ : MethodName) jdk_56_method_3_code 2 (some (.object "java/util/List")) ({ frames := 6, cells := 2, slots := 3, locals := 75 } : Room) #[(.ref a)] h0 (Q_lc1 Z a d w kw mr em h0) := by
  refine Met1.of_body (Ls := #[.val (.ref a), .unset]) pf_14 (fun m => by first | (simp [entryFrame, mkF, argsToLocals, Value.category]; done) | rfl) ?_
  intro p e s m below meth c T0 C X0 e0
  have N0 : Fr Z.heap.size [] := Fr.nil _
  refine Go.aloadN (pc' := 1) C X0 d14_0 rfl rfl rfl ?_
  refine Go.instNo (pc' := 4) C X0 (tw hw 94 rfl) e0 Ea (NS.noI (tw hw 95 rfl) (tw hw 230 rfl) (NS.step (tw hw 95 rfl) (NS.step (tw hw 96 rfl) (NS.step (tw hw 97 rfl) (NS.rootI (tw hw 98 rfl) (tw hw 230 rfl) (by decide)) (by decide)) (by decide)) (by decide)) (by decide)) d14_1 rfl ?_
  intro T101 X101 e101
  refine Go.ifNo (pc' := 7) C X101 d14_4 ((if0 _ _).trans (teq (x := (0 : Int32)) (y := (0 : Int32)) (by decide)).2) rfl ?_
  refine Go.aloadN (pc' := 8) C X101 d14_7 rfl rfl rfl ?_
  refine Go.instNo (pc' := 11) C X101 (tw hw 99 rfl) e101 Ea (NS.noI (tw hw 95 rfl) (tw hw 208 rfl) (NS.step (tw hw 95 rfl) (NS.step (tw hw 96 rfl) (NS.step (tw hw 97 rfl) (NS.rootI (tw hw 98 rfl) (tw hw 208 rfl) (by decide)) (by decide)) (by decide)) (by decide)) (by decide)) d14_8 rfl ?_
  intro T103 X103 e103
  refine Go.ifYes (pc' := 31) C X103 d14_11 ((if0 _ _).trans (teq (x := (0 : Int32)) (y := (0 : Int32)) (by decide)).1) (by decide) (by decide) ?_
  refine Go.aloadN (pc' := 32) C X103 d14_31 rfl rfl rfl ?_
  refine Go.callF (y := (⟨"java/util/Collection", "isEmpty", "()Z"⟩ : MethodName)) (z := (⟨"java/util/ArrayList", "isEmpty", "()Z"⟩ : MethodName)) (a := a) (pc' := 37) C X103 (tw hw 100 rfl) (tw hw 101 rfl) (tw hw 102 rfl) (tw hw 103 rfl) (tw hw 104 rfl) (tw hw 105 rfl) (tw hw 106 rfl) (tw hw 107 rfl) rfl Ea (by decide) (rm_emp1 l Z a0 hw a h0 O0 Fs) (tw hw 108 rfl) (tw hw 57 rfl) e103 (argsL := []) (rest := []) (W := 0) rfl rfl pd_15 rfl (Nat.le_of_eq rfl) rfl (by decide) (by decide) (by decide) (by decide) d14_32 rfl ?_
  intro T105 v105 L105 X105 q105
  obtain ⟨rfl, rfl, e105⟩ := q105
  have N105 := Fr.app N0 (Fr.nil _)
  refine Go.ifYes (pc' := 44) C X105 d14_37 ((if0 _ _).trans (teq (x := (0 : Int32)) (y := (0 : Int32)) (by decide)).1) (by decide) (by decide) ?_
  refine Go.aloadN (pc' := 45) C X105 d14_44 rfl rfl rfl ?_
  refine Go.callF (y := (⟨"java/util/Collection", "toArray", "()[Ljava/lang/Object;"⟩ : MethodName)) (z := (⟨"java/util/ArrayList", "toArray", "()[Ljava/lang/Object;"⟩ : MethodName)) (a := a) (pc' := 50) C X105 (tw hw 167 rfl) (tw hw 168 rfl) (tw hw 169 rfl) (tw hw 170 rfl) (tw hw 171 rfl) (tw hw 172 rfl) (tw hw 173 rfl) (tw hw 107 rfl) rfl Ea (by decide) (rm_ta1 l Z a0 hw a d w kw mr h0 O0 Fe Fs Ew Aw Ed hM) (tw hw 174 rfl) (tw hw 57 rfl) e105 (argsL := []) (rest := []) (W := 0) rfl rfl pd_6 rfl (Nat.le_of_eq rfl) rfl (by decide) (by decide) (by decide) (by decide) d14_45 rfl ?_
  intro T107 v107 L107 X107 q107
  obtain ⟨v_107, kv_107, rfl, N107q, K107, B107_0, P107_0⟩ := q107
  have N107 := Fr.app N105 N107q
  have n_v_107 : Z.heap.size ≤ v_107 := Nat.le_trans O0.1 B107_0
  have z_v_107 : h0.size ≤ v_107 := Nat.le_trans (Nat.le_refl _) B107_0
  have c109 : Exa Z T107.heap d "com/example/tranche/tranche/journal/DefaultRateChange" := (Exa.keep Ed K107)
  have O110 : Ext Z.heap T107.heap := (Ext.keep O0 K107 all0)
  refine Go.callS (y := (⟨"java/util/List", "of", "([Ljava/lang/Object;)Ljava/util/List;"⟩ : MethodName)) (pc' := 53) C X107 (tw hw 197 rfl) (tw hw 198 rfl) (by decide) (rm_lof1 l Z a0 hw d v_107 kv_107 em T107.heap O110 P107_0 c109 SE) (tw hw 199 rfl) (tw hw 88 rfl) rfl (argsL := [(.ref v_107)]) (rest := []) (W := 0) rfl rfl pd_14 rfl (Nat.le_of_eq rfl) rfl (by decide) (by decide) (by decide) (by decide) d14_50 rfl ?_
  intro T108 v108 L108 X108 q108
  obtain ⟨r_108, rfl, N108q, K108, B108_0, P108_0, P108_1⟩ := q108
  have N108 := Fr.app N107 N108q
  have n_r_108 : Z.heap.size ≤ r_108 := Nat.le_trans O110.1 B108_0
  have z_r_108 : h0.size ≤ r_108 := Nat.le_trans (Nat.le_trans (Nat.le_refl _) K107.1) B108_0
  have K111 : Keep h0 T108.heap [] := (((Keep.refl h0 []).trans K107 all0).trans K108 all0)
  exact Go.retA C X108 rfl d14_53 rfl rfl rfl ⟨r_108, rfl, N108, K111, z_r_108, P108_0, P108_1⟩ (by decide) (by decide)
def Q_lco1 (Z : State) (a : Addr) (d : Addr) (w : Addr) (kw : ClassId) (mr : Addr) (em : Addr) (h0 : Heap) (rv : Option Value) (h : Heap) (L : List Loc) : Prop := ∃ r : Addr, rv = some (.ref r) ∧ Fr Z.heap.size L ∧ Keep h0 h [] ∧ h0.size ≤ r ∧ Exa Z h r "java/util/ImmutableCollections$List12" ∧ Fld Z h r "java/util/ImmutableCollections$List12" "e1" "Ljava/lang/Object;" (.ref em)
set_option maxRecDepth 65536 in
set_option maxHeartbeats 40000000 in
theorem rm_lco1 (l : Launch) (Z : State) (a0 : Array Value) (hw : ∀ d ∈ tables_1, d.before a0 Z = true) (a : Addr) (d : Addr) (w : Addr) (kw : ClassId) (mr : Addr) (em : Addr) (h0 : Heap) (O0 : Ext Z.heap h0) (Ea : Exa Z h0 a "java/util/ArrayList") (Fe : Fld Z h0 a "java/util/ArrayList" "elementData" "[Ljava/lang/Object;" (.ref w)) (Fs : Fld Z h0 a "java/util/ArrayList" "size" "I" (.int (1 : Int32))) (Ew : Exa Z h0 w "[Ljava/lang/Object;") (Aw : AL Z h0 w kw (.object "java/lang/Object") [(.ref d), .null, .null, .null, .null, .null, .null, .null, .null, .null]) (Ed : Exa Z h0 d "com/example/tranche/tranche/journal/DefaultRateChange") (SE : Sta Z Z.heap "java/util/ImmutableCollections" "EMPTY" "Ljava/lang/Object;" (.ref em)) (hM : Mir Z "[Ljava/lang/Object;" mr) :
    Met1 l Z (⟨"java/util/List", "copyOf", "(Ljava/util/Collection;)Ljava/util/List;"⟩ : MethodName) jdk_40_method_48_code 1 (some (.object "java/util/List")) ({ frames := 7, cells := 2, slots := 3, locals := 88 } : Room) #[(.ref a)] h0 (Q_lco1 Z a d w kw mr em h0) := by
  refine Met1.of_body (Ls := #[.val (.ref a)]) pf_13 (fun m => by first | (simp [entryFrame, mkF, argsToLocals, Value.category]; done) | rfl) ?_
  intro p e s m below meth c T0 C X0 e0
  have N0 : Fr Z.heap.size [] := Fr.nil _
  refine Go.aloadN (pc' := 1) C X0 d13_0 rfl rfl rfl ?_
  refine Go.callS (y := (⟨"java/util/ImmutableCollections", "listCopy", "(Ljava/util/Collection;)Ljava/util/List;"⟩ : MethodName)) (pc' := 4) C X0 (tw hw 90 rfl) (tw hw 91 rfl) (by decide) (rm_lc1 l Z a0 hw a d w kw mr em h0 O0 Ea Fe Fs Ew Aw Ed SE hM) (tw hw 93 rfl) (tw hw 92 rfl) e0 (argsL := [(.ref a)]) (rest := []) (W := 0) rfl rfl pd_17 rfl (Nat.le_of_eq rfl) rfl (by decide) (by decide) (by decide) (by decide) d13_1 rfl ?_
  intro T101 v101 L101 X101 q101
  obtain ⟨r_101, rfl, N101q, K101, B101_0, P101_0, P101_1⟩ := q101
  have N101 := Fr.app N0 N101q
  have n_r_101 : Z.heap.size ≤ r_101 := Nat.le_trans O0.1 B101_0
  have z_r_101 : h0.size ≤ r_101 := Nat.le_trans (Nat.le_refl _) B101_0
  have K102 : Keep h0 T101.heap [] := ((Keep.refl h0 []).trans K101 all0)
  exact Go.retA C X101 rfl d13_4 rfl rfl rfl ⟨r_101, rfl, N101, K102, z_r_101, P101_0, P101_1⟩ (by decide) (by decide)
def Q_jI1 (Z : State) (j : Addr) (sr : Addr) (x0 : Int32) (a : Addr) (d : Addr) (w : Addr) (kw : ClassId) (mr : Addr) (em : Addr) (h0 : Heap) (rv : Option Value) (h : Heap) (L : List Loc) : Prop := ∃ r : Addr, rv = none ∧ Fr Z.heap.size L ∧ Keep h0 h [j] ∧ h0.size ≤ r ∧ Fld Z h j "com/example/tranche/tranche/journal/Journal" "events" "Ljava/util/List;" (.ref r) ∧ Exa Z h r "java/util/ImmutableCollections$List12" ∧ Fld Z h r "java/util/ImmutableCollections$List12" "e1" "Ljava/lang/Object;" (.ref em)
set_option maxRecDepth 65536 in
set_option maxHeartbeats 40000000 in
theorem rm_jI1 (l : Launch) (Z : State) (a0 : Array Value) (hw : ∀ d ∈ tables_1, d.before a0 Z = true) (j : Addr) (sr : Addr) (x0 : Int32) (a : Addr) (d : Addr) (w : Addr) (kw : ClassId) (mr : Addr) (em : Addr) (h0 : Heap) (O0 : Ext Z.heap h0) (E0 : Exa Z h0 j "com/example/tranche/tranche/journal/Journal") (F1 : Fld Z h0 j "com/example/tranche/tranche/journal/Journal" "source" "Ljava/lang/String;" .null) (F2 : Fld Z h0 j "com/example/tranche/tranche/journal/Journal" "events" "Ljava/util/List;" .null) (F3 : Fld Z h0 j "com/example/tranche/tranche/journal/Journal" "incomplete" "Z" (.int (0 : Int32))) (Ea : Exa Z h0 a "java/util/ArrayList") (Fe : Fld Z h0 a "java/util/ArrayList" "elementData" "[Ljava/lang/Object;" (.ref w)) (Fs : Fld Z h0 a "java/util/ArrayList" "size" "I" (.int (1 : Int32))) (Ew : Exa Z h0 w "[Ljava/lang/Object;") (Aw : AL Z h0 w kw (.object "java/lang/Object") [(.ref d), .null, .null, .null, .null, .null, .null, .null, .null, .null]) (Ed : Exa Z h0 d "com/example/tranche/tranche/journal/DefaultRateChange") (SE : Sta Z Z.heap "java/util/ImmutableCollections" "EMPTY" "Ljava/lang/Object;" (.ref em)) (hM : Mir Z "[Ljava/lang/Object;" mr) (hn : Z.heap.size ≤ j) :
    Met1 l Z (⟨"com/example/tranche/tranche/journal/Journal", "<init>", "(Ljava/lang/String;Ljava/util/List;Z)V"⟩ : MethodName) prog_35_method_1_code 4 none ({ frames := 8, cells := 2, slots := 3, locals := 100 } : Room) #[(.ref j), (.ref sr), (.ref a), (.int x0)] h0 (Q_jI1 Z j sr x0 a d w kw mr em h0) := by
  refine Met1.of_body (Ls := #[.val (.ref j), .val (.ref sr), .val (.ref a), .val (.int x0)]) pf_12 (fun m => by first | (simp [entryFrame, mkF, argsToLocals, Value.category]; done) | rfl) ?_
  intro p e s m below meth c T0 C X0 e0
  have N0 : Fr Z.heap.size [] := Fr.nil _
  refine Go.aloadN (pc' := 1) C X0 d12_0 rfl rfl rfl ?_
  refine Go.callI (y := (⟨"java/lang/Record", "<init>", "()V"⟩ : MethodName)) (a := j) (pc' := 4) C X0 rfl (tw hw 85 rfl) (tw hw 36 rfl) (by decide) (rm_rec l Z a0 hw j h0 O0 ) (tw hw 39 rfl) (tw hw 38 rfl) e0 (argsL := []) (rest := []) (W := 0) rfl rfl pd_3 rfl (Nat.le_of_eq rfl) rfl (by decide) (by decide) (by decide) (by decide) rfl d12_1 rfl ?_
  intro T101 v101 L101 X101 q101
  obtain ⟨rfl, rfl, e101⟩ := q101
  have N101 := Fr.app N0 (Fr.nil _)
  refine Go.aloadN (pc' := 5) C X101 d12_4 rfl rfl rfl ?_
  refine Go.callS (y := (⟨"java/util/List", "copyOf", "(Ljava/util/Collection;)Ljava/util/List;"⟩ : MethodName)) (pc' := 8) C X101 (tw hw 86 rfl) (tw hw 87 rfl) (by decide) (rm_lco1 l Z a0 hw a d w kw mr em h0 O0 Ea Fe Fs Ew Aw Ed SE hM) (tw hw 89 rfl) (tw hw 88 rfl) e101 (argsL := [(.ref a)]) (rest := []) (W := 0) rfl rfl pd_17 rfl (Nat.le_of_eq rfl) rfl (by decide) (by decide) (by decide) (by decide) d12_5 rfl ?_
  intro T102 v102 L102 X102 q102
  obtain ⟨r_102, rfl, N102q, K102, B102_0, P102_0, P102_1⟩ := q102
  have N102 := Fr.app N101 N102q
  have n_r_102 : Z.heap.size ≤ r_102 := Nat.le_trans O0.1 B102_0
  have z_r_102 : h0.size ≤ r_102 := Nat.le_trans (Nat.le_refl _) B102_0
  refine Go.astoreN (Ls' := #[.val (.ref j), .val (.ref sr), .val (.ref r_102), .val (.int x0)]) (pc' := 9) C X102 d12_8 rfl rfl rfl ?_
  refine Go.aloadN (pc' := 10) C X102 d12_9 rfl rfl rfl ?_
  refine Go.aloadN (pc' := 11) C X102 d12_10 rfl rfl rfl ?_
  have c104 : Fld Z T102.heap j "com/example/tranche/tranche/journal/Journal" "source" "Ljava/lang/String;" .null := (Fld.keep F1 K102 nin0)
  have c105 : Exa Z T102.heap j "com/example/tranche/tranche/journal/Journal" := (Exa.keep E0 K102)
  refine Go.putF (pc' := 14) (host := "") (ty := (.object "java/lang/String")) C X102 (Or.inl (tw hw 115 rfl)) Via.refl rfl c104 c105 (Or.inr ⟨(tw hw 116 rfl), rfl, rfl⟩) (tw hw 80 rfl) (by decide) rfl rfl d12_11 rfl ?_
  intro T103 h103 X103 e103 W103 F103
  have N103 := Fr.snoc X103 N102 hn
  refine Go.aloadN (pc' := 15) C X103 d12_14 rfl rfl rfl ?_
  refine Go.aloadN (pc' := 16) C X103 d12_15 rfl rfl rfl ?_
  have c107 : Fld Z h103 j "com/example/tranche/tranche/journal/Journal" "events" "Ljava/util/List;" .null := (Fld.other W103 (Fld.keep F2 K102 nin0) (Or.inr (slot_ne (Or.inr (tw hw 118 rfl)) (Or.inr (tw hw 116 rfl)) (by decide) (t := (.object "java/util/List")) (t' := (.object "java/lang/String")) (by decide) (by decide))))
  have c108 : Exa Z h103 j "com/example/tranche/tranche/journal/Journal" := (Exa.wr W103 c105)
  refine Go.putF (pc' := 19) (host := "") (ty := (.object "java/util/List")) C X103 (Or.inl (tw hw 117 rfl)) Via.refl e103 c107 c108 (Or.inr ⟨(tw hw 118 rfl), rfl, rfl⟩) (tw hw 80 rfl) (by decide) rfl rfl d12_16 rfl ?_
  intro T106 h106 X106 e106 W106 F106
  have N106 := Fr.snoc X106 N103 hn
  refine Go.aloadN (pc' := 20) C X106 d12_19 rfl rfl rfl ?_
  refine Go.iloadN (pc' := 21) C X106 d12_20 rfl rfl ?_
  have c110 : Fld Z h106 j "com/example/tranche/tranche/journal/Journal" "incomplete" "Z" (.int (0 : Int32)) := (Fld.other W106 (Fld.other W103 (Fld.keep F3 K102 nin0) (Or.inr (slot_ne (Or.inr (tw hw 120 rfl)) (Or.inr (tw hw 116 rfl)) (by decide) (t := .boolean) (t' := (.object "java/lang/String")) (by decide) (by decide)))) (Or.inr (slot_ne (Or.inr (tw hw 120 rfl)) (Or.inr (tw hw 118 rfl)) (by decide) (t := .boolean) (t' := (.object "java/util/List")) (by decide) (by decide))))
  have c111 : Exa Z h106 j "com/example/tranche/tranche/journal/Journal" := (Exa.wr W106 c108)
  refine Go.putFN (pc' := 24) (ty := .boolean) (v' := .int (nar .boolean x0)) C X106 (tw hw 119 rfl) Via.refl e106 c110 c111 (Or.inr ⟨(tw hw 120 rfl), rfl, rfl⟩) (tw hw 80 rfl) (by decide) rfl (fits_nar_bool _) d12_21 rfl ?_
  intro T109 h109 X109 e109 W109 F109
  have N109 := Fr.snoc X109 N106 hn
  have K112 : Keep h0 h109 [j] := (((((Keep.refl h0 [j]).trans K102 all0).wr W103 (Or.inl (by simp))).wr W106 (Or.inl (by simp))).wr W109 (Or.inl (by simp)))
  have c113 : Fld Z h109 j "com/example/tranche/tranche/journal/Journal" "events" "Ljava/util/List;" (.ref r_102) := (Fld.other W109 F106 (Or.inr (slot_ne (Or.inr (tw hw 118 rfl)) (Or.inr (tw hw 120 rfl)) (by decide) (t := (.object "java/util/List")) (t' := .boolean) (by decide) (by decide))))
  have c114 : Exa Z h109 r_102 "java/util/ImmutableCollections$List12" := (Exa.wr W109 (Exa.wr W106 (Exa.wr W103 P102_0)))
  have ne115 : r_102 ≠ j := (Nat.ne_of_gt (Nat.lt_of_lt_of_le E0.lt (Nat.le_trans (Nat.le_refl _) B102_0)))
  have c116 : Fld Z h109 r_102 "java/util/ImmutableCollections$List12" "e1" "Ljava/lang/Object;" (.ref em) := (Fld.other W109 (Fld.other W106 (Fld.other W103 P102_1 (Or.inl ne115)) (Or.inl ne115)) (Or.inl ne115))
  exact Go.retV C X109 rfl d12_24 (by rw [e109]; exact ⟨r_102, rfl, N109, K112, z_r_102, c113, c114, c116⟩) (by decide) (by decide)
theorem pf_35 : plainFor (⟨"java/util/ImmutableCollections$List12", "size", "()I"⟩ : MethodName) = true := plainFor_of_name (by first | (simp [plainName, overriddenIn]; done) | decide +kernel)
theorem d35_0 : decode jdk_44_method_3_code 0 = .ok (.aload_n 0, 1) := by decide +kernel
theorem d35_1 : decode jdk_44_method_3_code 1 = .ok (.getfield 24, 3) := by decide +kernel
theorem d35_4 : decode jdk_44_method_3_code 4 = .ok (.getstatic 19, 3) := by decide +kernel
theorem d35_7 : decode jdk_44_method_3_code 7 = .ok (.if_acmp .eq 7, 3) := by decide +kernel
theorem d35_14 : decode jdk_44_method_3_code 14 = .ok (.iconst 1, 1) := by decide +kernel
theorem d35_15 : decode jdk_44_method_3_code 15 = .ok (.ireturn, 1) := by decide +kernel
def Q_sz1 (Z : State) (r : Addr) (em : Addr) (h0 : Heap) (rv : Option Value) (h : Heap) (L : List Loc) : Prop := rv = some (.int (1 : Int32)) ∧ L = [] ∧ h = h0
set_option maxRecDepth 65536 in
set_option maxHeartbeats 40000000 in
theorem rm_sz1 (l : Launch) (Z : State) (a0 : Array Value) (hw : ∀ d ∈ tables_1, d.before a0 Z = true) (r : Addr) (em : Addr) (h0 : Heap) (O0 : Ext Z.heap h0) (Er : Exa Z h0 r "java/util/ImmutableCollections$List12") (Fr_ : Fld Z h0 r "java/util/ImmutableCollections$List12" "e1" "Ljava/lang/Object;" (.ref em)) (SE : Sta Z Z.heap "java/util/ImmutableCollections" "EMPTY" "Ljava/lang/Object;" (.ref em)) :
    Met1 l Z (⟨"java/util/ImmutableCollections$List12", "size", "()I"⟩ : MethodName) jdk_44_method_3_code 1 (some .int) ({ frames := 0, cells := 0, slots := 0, locals := 0 } : Room) #[(.ref r)] h0 (Q_sz1 Z r em h0) := by
  refine Met1.of_body (Ls := #[.val (.ref r)]) pf_35 (fun m => by first | (simp [entryFrame, mkF, argsToLocals, Value.category]; done) | rfl) ?_
  intro p e s m below meth c T0 C X0 e0
  have N0 : Fr Z.heap.size [] := Fr.nil _
  refine Go.aloadN (pc' := 1) C X0 d35_0 rfl rfl rfl ?_
  refine Go.getF (pc' := 4) (host := "") C X0 (Or.inl (tw hw 243 rfl)) Via.refl e0 Fr_ d35_1 rfl ?_
  intro T101 X101 e101
  refine Go.getS (pc' := 7)  C X101 (Or.inr (tw hw 251 rfl)) Via.refl e101 (SE.ext O0) d35_4 rfl ?_
  intro T102 X102 e102
  refine Go.acmpYes (pc' := 14) C X102 d35_7 rfl rfl (XT.aa_eq_t rfl) (by decide) (by decide) ?_
  refine Go.iconst (z := (1 : Int32)) (pc' := 15) C X102 d35_14 rfl rfl ?_
  exact Go.retI C X102 rfl d35_15 (by rw [e102]; exact ⟨rfl, rfl, rfl⟩) (by decide) (by decide)
def Q_nl1 (Z : State) (j : Addr) (r : Addr) (em : Addr) (h0 : Heap) (rv : Option Value) (h : Heap) (L : List Loc) : Prop := rv = some (.int (2 : Int32)) ∧ L = [] ∧ h = h0
set_option maxRecDepth 65536 in
set_option maxHeartbeats 40000000 in
theorem rm_nl1 (l : Launch) (Z : State) (a0 : Array Value) (hw : ∀ d ∈ tables_1, d.before a0 Z = true) (j : Addr) (r : Addr) (em : Addr) (h0 : Heap) (O0 : Ext Z.heap h0) (F2 : Fld Z h0 j "com/example/tranche/tranche/journal/Journal" "events" "Ljava/util/List;" (.ref r)) (Er : Exa Z h0 r "java/util/ImmutableCollections$List12") (Fr_ : Fld Z h0 r "java/util/ImmutableCollections$List12" "e1" "Ljava/lang/Object;" (.ref em)) (SE : Sta Z Z.heap "java/util/ImmutableCollections" "EMPTY" "Ljava/lang/Object;" (.ref em)) :
    Met1 l Z (⟨"com/example/tranche/tranche/journal/Journal", "nextLine", "()I"⟩ : MethodName) prog_35_method_2_code 1 (some .int) ({ frames := 1, cells := 0, slots := 0, locals := 12 } : Room) #[(.ref j)] h0 (Q_nl1 Z j r em h0) := by
  refine Met1.of_body (Ls := #[.val (.ref j)]) pf_22 (fun m => by first | (simp [entryFrame, mkF, argsToLocals, Value.category]; done) | rfl) ?_
  intro p e s m below meth c T0 C X0 e0
  have N0 : Fr Z.heap.size [] := Fr.nil _
  refine Go.aloadN (pc' := 1) C X0 d22_0 rfl rfl rfl ?_
  refine Go.getF (pc' := 4) (host := "") C X0 (Or.inl (tw hw 117 rfl)) Via.refl e0 F2 d22_1 rfl ?_
  intro T101 X101 e101
  refine Go.callF (y := (⟨"java/util/List", "size", "()I"⟩ : MethodName)) (z := (⟨"java/util/ImmutableCollections$List12", "size", "()I"⟩ : MethodName)) (a := r) (pc' := 9) C X101 (tw hw 155 rfl) (tw hw 156 rfl) (tw hw 157 rfl) (tw hw 245 rfl) (tw hw 246 rfl) (tw hw 247 rfl) (tw hw 248 rfl) (tw hw 249 rfl) rfl Er (by decide) (rm_sz1 l Z a0 hw r em h0 O0 Er Fr_ SE) (tw hw 250 rfl) (tw hw 231 rfl) e101 (argsL := []) (rest := []) (W := 0) rfl rfl pd_18 rfl (Nat.le_of_eq rfl) rfl (by decide) (by decide) (by decide) (by decide) d22_4 rfl ?_
  intro T102 v102 L102 X102 q102
  obtain ⟨rfl, rfl, e102⟩ := q102
  have N102 := Fr.app N0 (Fr.nil _)
  refine Go.iconst (z := (1 : Int32)) (pc' := 10) C X102 d22_9 rfl rfl ?_
  refine Go.iadd (pc' := 11) C X102 d22_10 rfl ?_
  rw [show ((1 : Int32) + (1 : Int32)) = (2 : Int32) from by decide]
  exact Go.retI C X102 rfl d22_11 (by rw [e102]; exact ⟨rfl, (by simp), rfl⟩) (by decide) (by decide)
def Q_lc2 (Z : State) (a : Addr) (d : Addr) (w : Addr) (kw : ClassId) (mr : Addr) (h0 : Heap) (rv : Option Value) (h : Heap) (L : List Loc) : Prop := ∃ r : Addr, rv = some (.ref r) ∧ Fr Z.heap.size L ∧ Keep h0 h [] ∧ h0.size ≤ r ∧ Exa Z h r "java/util/ImmutableCollections$List12" ∧ Fld Z h r "java/util/ImmutableCollections$List12" "e1" "Ljava/lang/Object;" (.ref d)
set_option maxRecDepth 65536 in
set_option maxHeartbeats 40000000 in
theorem rm_lc2 (l : Launch) (Z : State) (a0 : Array Value) (hw : ∀ d ∈ tables_1, d.before a0 Z = true) (a : Addr) (d : Addr) (w : Addr) (kw : ClassId) (mr : Addr) (h0 : Heap) (O0 : Ext Z.heap h0) (Ea : Exa Z h0 a "java/util/ArrayList") (Fe : Fld Z h0 a "java/util/ArrayList" "elementData" "[Ljava/lang/Object;" (.ref w)) (Fs : Fld Z h0 a "java/util/ArrayList" "size" "I" (.int (2 : Int32))) (Ew : Exa Z h0 w "[Ljava/lang/Object;") (Aw : AL Z h0 w kw (.object "java/lang/Object") [(.ref d), (.ref d), .null, .null, .null, .null, .null, .null, .null, .null]) (Ed : Exa Z h0 d "com/example/tranche/tranche/journal/DefaultRateChange") (hM : Mir Z "[Ljava/lang/Object;" mr) :
    Met1 l Z (⟨"java/util/ImmutableCollections", "listCopy", "(Ljava/util/Collection;)Ljava/util/List;"⟩ : MethodName) jdk_56_method_3_code 2 (some (.object "java/util/List")) ({ frames := 6, cells := 2, slots := 4, locals := 76 } : Room) #[(.ref a)] h0 (Q_lc2 Z a d w kw mr h0) := by
  refine Met1.of_body (Ls := #[.val (.ref a), .unset]) pf_14 (fun m => by first | (simp [entryFrame, mkF, argsToLocals, Value.category]; done) | rfl) ?_
  intro p e s m below meth c T0 C X0 e0
  have N0 : Fr Z.heap.size [] := Fr.nil _
  refine Go.aloadN (pc' := 1) C X0 d14_0 rfl rfl rfl ?_
  refine Go.instNo (pc' := 4) C X0 (tw hw 94 rfl) e0 Ea (NS.noI (tw hw 95 rfl) (tw hw 230 rfl) (NS.step (tw hw 95 rfl) (NS.step (tw hw 96 rfl) (NS.step (tw hw 97 rfl) (NS.rootI (tw hw 98 rfl) (tw hw 230 rfl) (by decide)) (by decide)) (by decide)) (by decide)) (by decide)) d14_1 rfl ?_
  intro T101 X101 e101
  refine Go.ifNo (pc' := 7) C X101 d14_4 ((if0 _ _).trans (teq (x := (0 : Int32)) (y := (0 : Int32)) (by decide)).2) rfl ?_
  refine Go.aloadN (pc' := 8) C X101 d14_7 rfl rfl rfl ?_
  refine Go.instNo (pc' := 11) C X101 (tw hw 99 rfl) e101 Ea (NS.noI (tw hw 95 rfl) (tw hw 208 rfl) (NS.step (tw hw 95 rfl) (NS.step (tw hw 96 rfl) (NS.step (tw hw 97 rfl) (NS.rootI (tw hw 98 rfl) (tw hw 208 rfl) (by decide)) (by decide)) (by decide)) (by decide)) (by decide)) d14_8 rfl ?_
  intro T103 X103 e103
  refine Go.ifYes (pc' := 31) C X103 d14_11 ((if0 _ _).trans (teq (x := (0 : Int32)) (y := (0 : Int32)) (by decide)).1) (by decide) (by decide) ?_
  refine Go.aloadN (pc' := 32) C X103 d14_31 rfl rfl rfl ?_
  refine Go.callF (y := (⟨"java/util/Collection", "isEmpty", "()Z"⟩ : MethodName)) (z := (⟨"java/util/ArrayList", "isEmpty", "()Z"⟩ : MethodName)) (a := a) (pc' := 37) C X103 (tw hw 100 rfl) (tw hw 101 rfl) (tw hw 102 rfl) (tw hw 103 rfl) (tw hw 104 rfl) (tw hw 105 rfl) (tw hw 106 rfl) (tw hw 107 rfl) rfl Ea (by decide) (rm_emp2 l Z a0 hw a h0 O0 Fs) (tw hw 108 rfl) (tw hw 57 rfl) e103 (argsL := []) (rest := []) (W := 0) rfl rfl pd_15 rfl (Nat.le_of_eq rfl) rfl (by decide) (by decide) (by decide) (by decide) d14_32 rfl ?_
  intro T105 v105 L105 X105 q105
  obtain ⟨rfl, rfl, e105⟩ := q105
  have N105 := Fr.app N0 (Fr.nil _)
  refine Go.ifYes (pc' := 44) C X105 d14_37 ((if0 _ _).trans (teq (x := (0 : Int32)) (y := (0 : Int32)) (by decide)).1) (by decide) (by decide) ?_
  refine Go.aloadN (pc' := 45) C X105 d14_44 rfl rfl rfl ?_
  refine Go.callF (y := (⟨"java/util/Collection", "toArray", "()[Ljava/lang/Object;"⟩ : MethodName)) (z := (⟨"java/util/ArrayList", "toArray", "()[Ljava/lang/Object;"⟩ : MethodName)) (a := a) (pc' := 50) C X105 (tw hw 167 rfl) (tw hw 168 rfl) (tw hw 169 rfl) (tw hw 170 rfl) (tw hw 171 rfl) (tw hw 172 rfl) (tw hw 173 rfl) (tw hw 107 rfl) rfl Ea (by decide) (rm_ta2 l Z a0 hw a d w kw mr h0 O0 Fe Fs Ew Aw Ed hM) (tw hw 174 rfl) (tw hw 57 rfl) e105 (argsL := []) (rest := []) (W := 0) rfl rfl pd_6 rfl (Nat.le_of_eq rfl) rfl (by decide) (by decide) (by decide) (by decide) d14_45 rfl ?_
  intro T107 v107 L107 X107 q107
  obtain ⟨v_107, kv_107, rfl, N107q, K107, B107_0, P107_0⟩ := q107
  have N107 := Fr.app N105 N107q
  have n_v_107 : Z.heap.size ≤ v_107 := Nat.le_trans O0.1 B107_0
  have z_v_107 : h0.size ≤ v_107 := Nat.le_trans (Nat.le_refl _) B107_0
  have c109 : Exa Z T107.heap d "com/example/tranche/tranche/journal/DefaultRateChange" := (Exa.keep Ed K107)
  have O110 : Ext Z.heap T107.heap := (Ext.keep O0 K107 all0)
  refine Go.callS (y := (⟨"java/util/List", "of", "([Ljava/lang/Object;)Ljava/util/List;"⟩ : MethodName)) (pc' := 53) C X107 (tw hw 197 rfl) (tw hw 198 rfl) (by decide) (rm_lof2 l Z a0 hw d v_107 kv_107 T107.heap O110 P107_0 c109) (tw hw 199 rfl) (tw hw 88 rfl) rfl (argsL := [(.ref v_107)]) (rest := []) (W := 0) rfl rfl pd_14 rfl (Nat.le_of_eq rfl) rfl (by decide) (by decide) (by decide) (by decide) d14_50 rfl ?_
  intro T108 v108 L108 X108 q108
  obtain ⟨r_108, rfl, N108q, K108, B108_0, P108_0, P108_1⟩ := q108
  have N108 := Fr.app N107 N108q
  have n_r_108 : Z.heap.size ≤ r_108 := Nat.le_trans O110.1 B108_0
  have z_r_108 : h0.size ≤ r_108 := Nat.le_trans (Nat.le_trans (Nat.le_refl _) K107.1) B108_0
  have K111 : Keep h0 T108.heap [] := (((Keep.refl h0 []).trans K107 all0).trans K108 all0)
  exact Go.retA C X108 rfl d14_53 rfl rfl rfl ⟨r_108, rfl, N108, K111, z_r_108, P108_0, P108_1⟩ (by decide) (by decide)
def Q_lco2 (Z : State) (a : Addr) (d : Addr) (w : Addr) (kw : ClassId) (mr : Addr) (h0 : Heap) (rv : Option Value) (h : Heap) (L : List Loc) : Prop := ∃ r : Addr, rv = some (.ref r) ∧ Fr Z.heap.size L ∧ Keep h0 h [] ∧ h0.size ≤ r ∧ Exa Z h r "java/util/ImmutableCollections$List12" ∧ Fld Z h r "java/util/ImmutableCollections$List12" "e1" "Ljava/lang/Object;" (.ref d)
set_option maxRecDepth 65536 in
set_option maxHeartbeats 40000000 in
theorem rm_lco2 (l : Launch) (Z : State) (a0 : Array Value) (hw : ∀ d ∈ tables_1, d.before a0 Z = true) (a : Addr) (d : Addr) (w : Addr) (kw : ClassId) (mr : Addr) (h0 : Heap) (O0 : Ext Z.heap h0) (Ea : Exa Z h0 a "java/util/ArrayList") (Fe : Fld Z h0 a "java/util/ArrayList" "elementData" "[Ljava/lang/Object;" (.ref w)) (Fs : Fld Z h0 a "java/util/ArrayList" "size" "I" (.int (2 : Int32))) (Ew : Exa Z h0 w "[Ljava/lang/Object;") (Aw : AL Z h0 w kw (.object "java/lang/Object") [(.ref d), (.ref d), .null, .null, .null, .null, .null, .null, .null, .null]) (Ed : Exa Z h0 d "com/example/tranche/tranche/journal/DefaultRateChange") (hM : Mir Z "[Ljava/lang/Object;" mr) :
    Met1 l Z (⟨"java/util/List", "copyOf", "(Ljava/util/Collection;)Ljava/util/List;"⟩ : MethodName) jdk_40_method_48_code 1 (some (.object "java/util/List")) ({ frames := 7, cells := 2, slots := 4, locals := 89 } : Room) #[(.ref a)] h0 (Q_lco2 Z a d w kw mr h0) := by
  refine Met1.of_body (Ls := #[.val (.ref a)]) pf_13 (fun m => by first | (simp [entryFrame, mkF, argsToLocals, Value.category]; done) | rfl) ?_
  intro p e s m below meth c T0 C X0 e0
  have N0 : Fr Z.heap.size [] := Fr.nil _
  refine Go.aloadN (pc' := 1) C X0 d13_0 rfl rfl rfl ?_
  refine Go.callS (y := (⟨"java/util/ImmutableCollections", "listCopy", "(Ljava/util/Collection;)Ljava/util/List;"⟩ : MethodName)) (pc' := 4) C X0 (tw hw 90 rfl) (tw hw 91 rfl) (by decide) (rm_lc2 l Z a0 hw a d w kw mr h0 O0 Ea Fe Fs Ew Aw Ed hM) (tw hw 93 rfl) (tw hw 92 rfl) e0 (argsL := [(.ref a)]) (rest := []) (W := 0) rfl rfl pd_17 rfl (Nat.le_of_eq rfl) rfl (by decide) (by decide) (by decide) (by decide) d13_1 rfl ?_
  intro T101 v101 L101 X101 q101
  obtain ⟨r_101, rfl, N101q, K101, B101_0, P101_0, P101_1⟩ := q101
  have N101 := Fr.app N0 N101q
  have n_r_101 : Z.heap.size ≤ r_101 := Nat.le_trans O0.1 B101_0
  have z_r_101 : h0.size ≤ r_101 := Nat.le_trans (Nat.le_refl _) B101_0
  have K102 : Keep h0 T101.heap [] := ((Keep.refl h0 []).trans K101 all0)
  exact Go.retA C X101 rfl d13_4 rfl rfl rfl ⟨r_101, rfl, N101, K102, z_r_101, P101_0, P101_1⟩ (by decide) (by decide)
def Q_jI2 (Z : State) (j : Addr) (sr : Addr) (x0 : Int32) (a : Addr) (d : Addr) (w : Addr) (kw : ClassId) (mr : Addr) (h0 : Heap) (rv : Option Value) (h : Heap) (L : List Loc) : Prop := ∃ r : Addr, rv = none ∧ Fr Z.heap.size L ∧ Keep h0 h [j] ∧ h0.size ≤ r ∧ Fld Z h j "com/example/tranche/tranche/journal/Journal" "events" "Ljava/util/List;" (.ref r) ∧ Exa Z h r "java/util/ImmutableCollections$List12" ∧ Fld Z h r "java/util/ImmutableCollections$List12" "e1" "Ljava/lang/Object;" (.ref d)
set_option maxRecDepth 65536 in
set_option maxHeartbeats 40000000 in
theorem rm_jI2 (l : Launch) (Z : State) (a0 : Array Value) (hw : ∀ d ∈ tables_1, d.before a0 Z = true) (j : Addr) (sr : Addr) (x0 : Int32) (a : Addr) (d : Addr) (w : Addr) (kw : ClassId) (mr : Addr) (h0 : Heap) (O0 : Ext Z.heap h0) (E0 : Exa Z h0 j "com/example/tranche/tranche/journal/Journal") (F1 : Fld Z h0 j "com/example/tranche/tranche/journal/Journal" "source" "Ljava/lang/String;" .null) (F2 : Fld Z h0 j "com/example/tranche/tranche/journal/Journal" "events" "Ljava/util/List;" .null) (F3 : Fld Z h0 j "com/example/tranche/tranche/journal/Journal" "incomplete" "Z" (.int (0 : Int32))) (Ea : Exa Z h0 a "java/util/ArrayList") (Fe : Fld Z h0 a "java/util/ArrayList" "elementData" "[Ljava/lang/Object;" (.ref w)) (Fs : Fld Z h0 a "java/util/ArrayList" "size" "I" (.int (2 : Int32))) (Ew : Exa Z h0 w "[Ljava/lang/Object;") (Aw : AL Z h0 w kw (.object "java/lang/Object") [(.ref d), (.ref d), .null, .null, .null, .null, .null, .null, .null, .null]) (Ed : Exa Z h0 d "com/example/tranche/tranche/journal/DefaultRateChange") (hM : Mir Z "[Ljava/lang/Object;" mr) (hn : Z.heap.size ≤ j) :
    Met1 l Z (⟨"com/example/tranche/tranche/journal/Journal", "<init>", "(Ljava/lang/String;Ljava/util/List;Z)V"⟩ : MethodName) prog_35_method_1_code 4 none ({ frames := 8, cells := 2, slots := 4, locals := 101 } : Room) #[(.ref j), (.ref sr), (.ref a), (.int x0)] h0 (Q_jI2 Z j sr x0 a d w kw mr h0) := by
  refine Met1.of_body (Ls := #[.val (.ref j), .val (.ref sr), .val (.ref a), .val (.int x0)]) pf_12 (fun m => by first | (simp [entryFrame, mkF, argsToLocals, Value.category]; done) | rfl) ?_
  intro p e s m below meth c T0 C X0 e0
  have N0 : Fr Z.heap.size [] := Fr.nil _
  refine Go.aloadN (pc' := 1) C X0 d12_0 rfl rfl rfl ?_
  refine Go.callI (y := (⟨"java/lang/Record", "<init>", "()V"⟩ : MethodName)) (a := j) (pc' := 4) C X0 rfl (tw hw 85 rfl) (tw hw 36 rfl) (by decide) (rm_rec l Z a0 hw j h0 O0 ) (tw hw 39 rfl) (tw hw 38 rfl) e0 (argsL := []) (rest := []) (W := 0) rfl rfl pd_3 rfl (Nat.le_of_eq rfl) rfl (by decide) (by decide) (by decide) (by decide) rfl d12_1 rfl ?_
  intro T101 v101 L101 X101 q101
  obtain ⟨rfl, rfl, e101⟩ := q101
  have N101 := Fr.app N0 (Fr.nil _)
  refine Go.aloadN (pc' := 5) C X101 d12_4 rfl rfl rfl ?_
  refine Go.callS (y := (⟨"java/util/List", "copyOf", "(Ljava/util/Collection;)Ljava/util/List;"⟩ : MethodName)) (pc' := 8) C X101 (tw hw 86 rfl) (tw hw 87 rfl) (by decide) (rm_lco2 l Z a0 hw a d w kw mr h0 O0 Ea Fe Fs Ew Aw Ed hM) (tw hw 89 rfl) (tw hw 88 rfl) e101 (argsL := [(.ref a)]) (rest := []) (W := 0) rfl rfl pd_17 rfl (Nat.le_of_eq rfl) rfl (by decide) (by decide) (by decide) (by decide) d12_5 rfl ?_
  intro T102 v102 L102 X102 q102
  obtain ⟨r_102, rfl, N102q, K102, B102_0, P102_0, P102_1⟩ := q102
  have N102 := Fr.app N101 N102q
  have n_r_102 : Z.heap.size ≤ r_102 := Nat.le_trans O0.1 B102_0
  have z_r_102 : h0.size ≤ r_102 := Nat.le_trans (Nat.le_refl _) B102_0
  refine Go.astoreN (Ls' := #[.val (.ref j), .val (.ref sr), .val (.ref r_102), .val (.int x0)]) (pc' := 9) C X102 d12_8 rfl rfl rfl ?_
  refine Go.aloadN (pc' := 10) C X102 d12_9 rfl rfl rfl ?_
  refine Go.aloadN (pc' := 11) C X102 d12_10 rfl rfl rfl ?_
  have c104 : Fld Z T102.heap j "com/example/tranche/tranche/journal/Journal" "source" "Ljava/lang/String;" .null := (Fld.keep F1 K102 nin0)
  have c105 : Exa Z T102.heap j "com/example/tranche/tranche/journal/Journal" := (Exa.keep E0 K102)
  refine Go.putF (pc' := 14) (host := "") (ty := (.object "java/lang/String")) C X102 (Or.inl (tw hw 115 rfl)) Via.refl rfl c104 c105 (Or.inr ⟨(tw hw 116 rfl), rfl, rfl⟩) (tw hw 80 rfl) (by decide) rfl rfl d12_11 rfl ?_
  intro T103 h103 X103 e103 W103 F103
  have N103 := Fr.snoc X103 N102 hn
  refine Go.aloadN (pc' := 15) C X103 d12_14 rfl rfl rfl ?_
  refine Go.aloadN (pc' := 16) C X103 d12_15 rfl rfl rfl ?_
  have c107 : Fld Z h103 j "com/example/tranche/tranche/journal/Journal" "events" "Ljava/util/List;" .null := (Fld.other W103 (Fld.keep F2 K102 nin0) (Or.inr (slot_ne (Or.inr (tw hw 118 rfl)) (Or.inr (tw hw 116 rfl)) (by decide) (t := (.object "java/util/List")) (t' := (.object "java/lang/String")) (by decide) (by decide))))
  have c108 : Exa Z h103 j "com/example/tranche/tranche/journal/Journal" := (Exa.wr W103 c105)
  refine Go.putF (pc' := 19) (host := "") (ty := (.object "java/util/List")) C X103 (Or.inl (tw hw 117 rfl)) Via.refl e103 c107 c108 (Or.inr ⟨(tw hw 118 rfl), rfl, rfl⟩) (tw hw 80 rfl) (by decide) rfl rfl d12_16 rfl ?_
  intro T106 h106 X106 e106 W106 F106
  have N106 := Fr.snoc X106 N103 hn
  refine Go.aloadN (pc' := 20) C X106 d12_19 rfl rfl rfl ?_
  refine Go.iloadN (pc' := 21) C X106 d12_20 rfl rfl ?_
  have c110 : Fld Z h106 j "com/example/tranche/tranche/journal/Journal" "incomplete" "Z" (.int (0 : Int32)) := (Fld.other W106 (Fld.other W103 (Fld.keep F3 K102 nin0) (Or.inr (slot_ne (Or.inr (tw hw 120 rfl)) (Or.inr (tw hw 116 rfl)) (by decide) (t := .boolean) (t' := (.object "java/lang/String")) (by decide) (by decide)))) (Or.inr (slot_ne (Or.inr (tw hw 120 rfl)) (Or.inr (tw hw 118 rfl)) (by decide) (t := .boolean) (t' := (.object "java/util/List")) (by decide) (by decide))))
  have c111 : Exa Z h106 j "com/example/tranche/tranche/journal/Journal" := (Exa.wr W106 c108)
  refine Go.putFN (pc' := 24) (ty := .boolean) (v' := .int (nar .boolean x0)) C X106 (tw hw 119 rfl) Via.refl e106 c110 c111 (Or.inr ⟨(tw hw 120 rfl), rfl, rfl⟩) (tw hw 80 rfl) (by decide) rfl (fits_nar_bool _) d12_21 rfl ?_
  intro T109 h109 X109 e109 W109 F109
  have N109 := Fr.snoc X109 N106 hn
  have K112 : Keep h0 h109 [j] := (((((Keep.refl h0 [j]).trans K102 all0).wr W103 (Or.inl (by simp))).wr W106 (Or.inl (by simp))).wr W109 (Or.inl (by simp)))
  have c113 : Fld Z h109 j "com/example/tranche/tranche/journal/Journal" "events" "Ljava/util/List;" (.ref r_102) := (Fld.other W109 F106 (Or.inr (slot_ne (Or.inr (tw hw 118 rfl)) (Or.inr (tw hw 120 rfl)) (by decide) (t := (.object "java/util/List")) (t' := .boolean) (by decide) (by decide))))
  have c114 : Exa Z h109 r_102 "java/util/ImmutableCollections$List12" := (Exa.wr W109 (Exa.wr W106 (Exa.wr W103 P102_0)))
  have ne115 : r_102 ≠ j := (Nat.ne_of_gt (Nat.lt_of_lt_of_le E0.lt (Nat.le_trans (Nat.le_refl _) B102_0)))
  have c116 : Fld Z h109 r_102 "java/util/ImmutableCollections$List12" "e1" "Ljava/lang/Object;" (.ref d) := (Fld.other W109 (Fld.other W106 (Fld.other W103 P102_1 (Or.inl ne115)) (Or.inl ne115)) (Or.inl ne115))
  exact Go.retV C X109 rfl d12_24 (by rw [e109]; exact ⟨r_102, rfl, N109, K112, z_r_102, c113, c114, c116⟩) (by decide) (by decide)
theorem d35_10 : decode jdk_44_method_3_code 10 = .ok (.iconst 2, 1) := by decide +kernel
theorem d35_11 : decode jdk_44_method_3_code 11 = .ok (.goto 4, 3) := by decide +kernel
def Q_sz2 (Z : State) (r : Addr) (em : Addr) (d : Addr) (h0 : Heap) (rv : Option Value) (h : Heap) (L : List Loc) : Prop := rv = some (.int (2 : Int32)) ∧ L = [] ∧ h = h0
set_option maxRecDepth 65536 in
set_option maxHeartbeats 40000000 in
theorem rm_sz2 (l : Launch) (Z : State) (a0 : Array Value) (hw : ∀ d ∈ tables_1, d.before a0 Z = true) (r : Addr) (em : Addr) (d : Addr) (h0 : Heap) (O0 : Ext Z.heap h0) (Er : Exa Z h0 r "java/util/ImmutableCollections$List12") (Fr_ : Fld Z h0 r "java/util/ImmutableCollections$List12" "e1" "Ljava/lang/Object;" (.ref d)) (SE : Sta Z Z.heap "java/util/ImmutableCollections" "EMPTY" "Ljava/lang/Object;" (.ref em)) (Ed : Exa Z h0 d "com/example/tranche/tranche/journal/DefaultRateChange") (Ee : Exa Z Z.heap em "java/lang/Object") :
    Met1 l Z (⟨"java/util/ImmutableCollections$List12", "size", "()I"⟩ : MethodName) jdk_44_method_3_code 1 (some .int) ({ frames := 0, cells := 0, slots := 0, locals := 0 } : Room) #[(.ref r)] h0 (Q_sz2 Z r em d h0) := by
  refine Met1.of_body (Ls := #[.val (.ref r)]) pf_35 (fun m => by first | (simp [entryFrame, mkF, argsToLocals, Value.category]; done) | rfl) ?_
  intro p e s m below meth c T0 C X0 e0
  have N0 : Fr Z.heap.size [] := Fr.nil _
  refine Go.aloadN (pc' := 1) C X0 d35_0 rfl rfl rfl ?_
  refine Go.getF (pc' := 4) (host := "") C X0 (Or.inl (tw hw 243 rfl)) Via.refl e0 Fr_ d35_1 rfl ?_
  intro T101 X101 e101
  refine Go.getS (pc' := 7)  C X101 (Or.inr (tw hw 251 rfl)) Via.refl e101 (SE.ext O0) d35_4 rfl ?_
  intro T102 X102 e102
  have ne103 : d ≠ em := ne_exa Ed (Exa.ext O0 Ee) (by decide)
  refine Go.acmpNo (pc' := 10) C X102 d35_7 rfl rfl (XT.aa_eq_f (fun q => ne103 (Value.ref.inj q))) rfl ?_
  refine Go.iconst (z := (2 : Int32)) (pc' := 11) C X102 d35_10 rfl rfl ?_
  refine Go.goto (pc' := 15) C X102 d35_11 (by decide) (by decide) ?_
  exact Go.retI C X102 rfl d35_15 (by rw [e102]; exact ⟨rfl, rfl, rfl⟩) (by decide) (by decide)
def Q_nl2 (Z : State) (j : Addr) (r : Addr) (em : Addr) (d : Addr) (h0 : Heap) (rv : Option Value) (h : Heap) (L : List Loc) : Prop := rv = some (.int (3 : Int32)) ∧ L = [] ∧ h = h0
set_option maxRecDepth 65536 in
set_option maxHeartbeats 40000000 in
theorem rm_nl2 (l : Launch) (Z : State) (a0 : Array Value) (hw : ∀ d ∈ tables_1, d.before a0 Z = true) (j : Addr) (r : Addr) (em : Addr) (d : Addr) (h0 : Heap) (O0 : Ext Z.heap h0) (F2 : Fld Z h0 j "com/example/tranche/tranche/journal/Journal" "events" "Ljava/util/List;" (.ref r)) (Er : Exa Z h0 r "java/util/ImmutableCollections$List12") (Fr_ : Fld Z h0 r "java/util/ImmutableCollections$List12" "e1" "Ljava/lang/Object;" (.ref d)) (SE : Sta Z Z.heap "java/util/ImmutableCollections" "EMPTY" "Ljava/lang/Object;" (.ref em)) (Ed : Exa Z h0 d "com/example/tranche/tranche/journal/DefaultRateChange") (Ee : Exa Z Z.heap em "java/lang/Object") :
    Met1 l Z (⟨"com/example/tranche/tranche/journal/Journal", "nextLine", "()I"⟩ : MethodName) prog_35_method_2_code 1 (some .int) ({ frames := 1, cells := 0, slots := 0, locals := 12 } : Room) #[(.ref j)] h0 (Q_nl2 Z j r em d h0) := by
  refine Met1.of_body (Ls := #[.val (.ref j)]) pf_22 (fun m => by first | (simp [entryFrame, mkF, argsToLocals, Value.category]; done) | rfl) ?_
  intro p e s m below meth c T0 C X0 e0
  have N0 : Fr Z.heap.size [] := Fr.nil _
  refine Go.aloadN (pc' := 1) C X0 d22_0 rfl rfl rfl ?_
  refine Go.getF (pc' := 4) (host := "") C X0 (Or.inl (tw hw 117 rfl)) Via.refl e0 F2 d22_1 rfl ?_
  intro T101 X101 e101
  refine Go.callF (y := (⟨"java/util/List", "size", "()I"⟩ : MethodName)) (z := (⟨"java/util/ImmutableCollections$List12", "size", "()I"⟩ : MethodName)) (a := r) (pc' := 9) C X101 (tw hw 155 rfl) (tw hw 156 rfl) (tw hw 157 rfl) (tw hw 245 rfl) (tw hw 246 rfl) (tw hw 247 rfl) (tw hw 248 rfl) (tw hw 249 rfl) rfl Er (by decide) (rm_sz2 l Z a0 hw r em d h0 O0 Er Fr_ SE Ed Ee) (tw hw 250 rfl) (tw hw 231 rfl) e101 (argsL := []) (rest := []) (W := 0) rfl rfl pd_18 rfl (Nat.le_of_eq rfl) rfl (by decide) (by decide) (by decide) (by decide) d22_4 rfl ?_
  intro T102 v102 L102 X102 q102
  obtain ⟨rfl, rfl, e102⟩ := q102
  have N102 := Fr.app N0 (Fr.nil _)
  refine Go.iconst (z := (1 : Int32)) (pc' := 10) C X102 d22_9 rfl rfl ?_
  refine Go.iadd (pc' := 11) C X102 d22_10 rfl ?_
  rw [show ((2 : Int32) + (1 : Int32)) = (3 : Int32) from by decide]
  exact Go.retI C X102 rfl d22_11 (by rw [e102]; exact ⟨rfl, (by simp), rfl⟩) (by decide) (by decide)
def Q_lc3 (Z : State) (a : Addr) (d : Addr) (w : Addr) (kw : ClassId) (mr : Addr) (h0 : Heap) (rv : Option Value) (h : Heap) (L : List Loc) : Prop := ∃ r : Addr, ∃ q : Addr, ∃ kq : ClassId, rv = some (.ref r) ∧ Fr Z.heap.size L ∧ Keep h0 h [] ∧ h0.size ≤ r ∧ h0.size ≤ q ∧ Exa Z h r "java/util/ImmutableCollections$ListN" ∧ Fld Z h r "java/util/ImmutableCollections$ListN" "elements" "[Ljava/lang/Object;" (.ref q) ∧ AL Z h q kq (.object "java/lang/Object") [(.ref d), (.ref d), (.ref d)]
set_option maxRecDepth 65536 in
set_option maxHeartbeats 40000000 in
theorem rm_lc3 (l : Launch) (Z : State) (a0 : Array Value) (hw : ∀ d ∈ tables_1, d.before a0 Z = true) (a : Addr) (d : Addr) (w : Addr) (kw : ClassId) (mr : Addr) (h0 : Heap) (O0 : Ext Z.heap h0) (Ea : Exa Z h0 a "java/util/ArrayList") (Fe : Fld Z h0 a "java/util/ArrayList" "elementData" "[Ljava/lang/Object;" (.ref w)) (Fs : Fld Z h0 a "java/util/ArrayList" "size" "I" (.int (3 : Int32))) (Ew : Exa Z h0 w "[Ljava/lang/Object;") (Aw : AL Z h0 w kw (.object "java/lang/Object") [(.ref d), (.ref d), (.ref d), .null, .null, .null, .null, .null, .null, .null]) (Ed : Exa Z h0 d "com/example/tranche/tranche/journal/DefaultRateChange") (hM : Mir Z "[Ljava/lang/Object;" mr) :
    Met1 l Z (⟨"java/util/ImmutableCollections", "listCopy", "(Ljava/util/Collection;)Ljava/util/List;"⟩ : MethodName) jdk_56_method_3_code 2 (some (.object "java/util/List")) ({ frames := 7, cells := 3, slots := 8, locals := 90 } : Room) #[(.ref a)] h0 (Q_lc3 Z a d w kw mr h0) := by
  refine Met1.of_body (Ls := #[.val (.ref a), .unset]) pf_14 (fun m => by first | (simp [entryFrame, mkF, argsToLocals, Value.category]; done) | rfl) ?_
  intro p e s m below meth c T0 C X0 e0
  have N0 : Fr Z.heap.size [] := Fr.nil _
  refine Go.aloadN (pc' := 1) C X0 d14_0 rfl rfl rfl ?_
  refine Go.instNo (pc' := 4) C X0 (tw hw 94 rfl) e0 Ea (NS.noI (tw hw 95 rfl) (tw hw 230 rfl) (NS.step (tw hw 95 rfl) (NS.step (tw hw 96 rfl) (NS.step (tw hw 97 rfl) (NS.rootI (tw hw 98 rfl) (tw hw 230 rfl) (by decide)) (by decide)) (by decide)) (by decide)) (by decide)) d14_1 rfl ?_
  intro T101 X101 e101
  refine Go.ifNo (pc' := 7) C X101 d14_4 ((if0 _ _).trans (teq (x := (0 : Int32)) (y := (0 : Int32)) (by decide)).2) rfl ?_
  refine Go.aloadN (pc' := 8) C X101 d14_7 rfl rfl rfl ?_
  refine Go.instNo (pc' := 11) C X101 (tw hw 99 rfl) e101 Ea (NS.noI (tw hw 95 rfl) (tw hw 208 rfl) (NS.step (tw hw 95 rfl) (NS.step (tw hw 96 rfl) (NS.step (tw hw 97 rfl) (NS.rootI (tw hw 98 rfl) (tw hw 208 rfl) (by decide)) (by decide)) (by decide)) (by decide)) (by decide)) d14_8 rfl ?_
  intro T103 X103 e103
  refine Go.ifYes (pc' := 31) C X103 d14_11 ((if0 _ _).trans (teq (x := (0 : Int32)) (y := (0 : Int32)) (by decide)).1) (by decide) (by decide) ?_
  refine Go.aloadN (pc' := 32) C X103 d14_31 rfl rfl rfl ?_
  refine Go.callF (y := (⟨"java/util/Collection", "isEmpty", "()Z"⟩ : MethodName)) (z := (⟨"java/util/ArrayList", "isEmpty", "()Z"⟩ : MethodName)) (a := a) (pc' := 37) C X103 (tw hw 100 rfl) (tw hw 101 rfl) (tw hw 102 rfl) (tw hw 103 rfl) (tw hw 104 rfl) (tw hw 105 rfl) (tw hw 106 rfl) (tw hw 107 rfl) rfl Ea (by decide) (rm_emp3 l Z a0 hw a h0 O0 Fs) (tw hw 108 rfl) (tw hw 57 rfl) e103 (argsL := []) (rest := []) (W := 0) rfl rfl pd_15 rfl (Nat.le_of_eq rfl) rfl (by decide) (by decide) (by decide) (by decide) d14_32 rfl ?_
  intro T105 v105 L105 X105 q105
  obtain ⟨rfl, rfl, e105⟩ := q105
  have N105 := Fr.app N0 (Fr.nil _)
  refine Go.ifYes (pc' := 44) C X105 d14_37 ((if0 _ _).trans (teq (x := (0 : Int32)) (y := (0 : Int32)) (by decide)).1) (by decide) (by decide) ?_
  refine Go.aloadN (pc' := 45) C X105 d14_44 rfl rfl rfl ?_
  refine Go.callF (y := (⟨"java/util/Collection", "toArray", "()[Ljava/lang/Object;"⟩ : MethodName)) (z := (⟨"java/util/ArrayList", "toArray", "()[Ljava/lang/Object;"⟩ : MethodName)) (a := a) (pc' := 50) C X105 (tw hw 167 rfl) (tw hw 168 rfl) (tw hw 169 rfl) (tw hw 170 rfl) (tw hw 171 rfl) (tw hw 172 rfl) (tw hw 173 rfl) (tw hw 107 rfl) rfl Ea (by decide) (rm_ta3 l Z a0 hw a d w kw mr h0 O0 Fe Fs Ew Aw Ed hM) (tw hw 174 rfl) (tw hw 57 rfl) e105 (argsL := []) (rest := []) (W := 0) rfl rfl pd_6 rfl (Nat.le_of_eq rfl) rfl (by decide) (by decide) (by decide) (by decide) d14_45 rfl ?_
  intro T107 v107 L107 X107 q107
  obtain ⟨v_107, kv_107, rfl, N107q, K107, B107_0, P107_0⟩ := q107
  have N107 := Fr.app N105 N107q
  have n_v_107 : Z.heap.size ≤ v_107 := Nat.le_trans O0.1 B107_0
  have z_v_107 : h0.size ≤ v_107 := Nat.le_trans (Nat.le_refl _) B107_0
  have c109 : Exa Z T107.heap d "com/example/tranche/tranche/journal/DefaultRateChange" := (Exa.keep Ed K107)
  have O110 : Ext Z.heap T107.heap := (Ext.keep O0 K107 all0)
  refine Go.callS (y := (⟨"java/util/List", "of", "([Ljava/lang/Object;)Ljava/util/List;"⟩ : MethodName)) (pc' := 53) C X107 (tw hw 197 rfl) (tw hw 198 rfl) (by decide) (rm_lof3 l Z a0 hw d v_107 kv_107 T107.heap O110 P107_0 c109) (tw hw 199 rfl) (tw hw 88 rfl) rfl (argsL := [(.ref v_107)]) (rest := []) (W := 0) rfl rfl pd_14 rfl (Nat.le_of_eq rfl) rfl (by decide) (by decide) (by decide) (by decide) d14_50 rfl ?_
  intro T108 v108 L108 X108 q108
  obtain ⟨r_108, q_108, kq_108, rfl, N108q, K108, B108_0, B108_1, P108_0, P108_1, P108_2⟩ := q108
  have N108 := Fr.app N107 N108q
  have n_r_108 : Z.heap.size ≤ r_108 := Nat.le_trans O110.1 B108_0
  have z_r_108 : h0.size ≤ r_108 := Nat.le_trans (Nat.le_trans (Nat.le_refl _) K107.1) B108_0
  have n_q_108 : Z.heap.size ≤ q_108 := Nat.le_trans O110.1 B108_1
  have z_q_108 : h0.size ≤ q_108 := Nat.le_trans (Nat.le_trans (Nat.le_refl _) K107.1) B108_1
  have K111 : Keep h0 T108.heap [] := (((Keep.refl h0 []).trans K107 all0).trans K108 all0)
  exact Go.retA C X108 rfl d14_53 rfl rfl rfl ⟨r_108, q_108, kq_108, rfl, N108, K111, z_r_108, z_q_108, P108_0, P108_1, P108_2⟩ (by decide) (by decide)
def Q_lco3 (Z : State) (a : Addr) (d : Addr) (w : Addr) (kw : ClassId) (mr : Addr) (h0 : Heap) (rv : Option Value) (h : Heap) (L : List Loc) : Prop := ∃ r : Addr, ∃ q : Addr, ∃ kq : ClassId, rv = some (.ref r) ∧ Fr Z.heap.size L ∧ Keep h0 h [] ∧ h0.size ≤ r ∧ h0.size ≤ q ∧ Exa Z h r "java/util/ImmutableCollections$ListN" ∧ Fld Z h r "java/util/ImmutableCollections$ListN" "elements" "[Ljava/lang/Object;" (.ref q) ∧ AL Z h q kq (.object "java/lang/Object") [(.ref d), (.ref d), (.ref d)]
set_option maxRecDepth 65536 in
set_option maxHeartbeats 40000000 in
theorem rm_lco3 (l : Launch) (Z : State) (a0 : Array Value) (hw : ∀ d ∈ tables_1, d.before a0 Z = true) (a : Addr) (d : Addr) (w : Addr) (kw : ClassId) (mr : Addr) (h0 : Heap) (O0 : Ext Z.heap h0) (Ea : Exa Z h0 a "java/util/ArrayList") (Fe : Fld Z h0 a "java/util/ArrayList" "elementData" "[Ljava/lang/Object;" (.ref w)) (Fs : Fld Z h0 a "java/util/ArrayList" "size" "I" (.int (3 : Int32))) (Ew : Exa Z h0 w "[Ljava/lang/Object;") (Aw : AL Z h0 w kw (.object "java/lang/Object") [(.ref d), (.ref d), (.ref d), .null, .null, .null, .null, .null, .null, .null]) (Ed : Exa Z h0 d "com/example/tranche/tranche/journal/DefaultRateChange") (hM : Mir Z "[Ljava/lang/Object;" mr) :
    Met1 l Z (⟨"java/util/List", "copyOf", "(Ljava/util/Collection;)Ljava/util/List;"⟩ : MethodName) jdk_40_method_48_code 1 (some (.object "java/util/List")) ({ frames := 8, cells := 3, slots := 8, locals := 103 } : Room) #[(.ref a)] h0 (Q_lco3 Z a d w kw mr h0) := by
  refine Met1.of_body (Ls := #[.val (.ref a)]) pf_13 (fun m => by first | (simp [entryFrame, mkF, argsToLocals, Value.category]; done) | rfl) ?_
  intro p e s m below meth c T0 C X0 e0
  have N0 : Fr Z.heap.size [] := Fr.nil _
  refine Go.aloadN (pc' := 1) C X0 d13_0 rfl rfl rfl ?_
  refine Go.callS (y := (⟨"java/util/ImmutableCollections", "listCopy", "(Ljava/util/Collection;)Ljava/util/List;"⟩ : MethodName)) (pc' := 4) C X0 (tw hw 90 rfl) (tw hw 91 rfl) (by decide) (rm_lc3 l Z a0 hw a d w kw mr h0 O0 Ea Fe Fs Ew Aw Ed hM) (tw hw 93 rfl) (tw hw 92 rfl) e0 (argsL := [(.ref a)]) (rest := []) (W := 0) rfl rfl pd_17 rfl (Nat.le_of_eq rfl) rfl (by decide) (by decide) (by decide) (by decide) d13_1 rfl ?_
  intro T101 v101 L101 X101 q101
  obtain ⟨r_101, q_101, kq_101, rfl, N101q, K101, B101_0, B101_1, P101_0, P101_1, P101_2⟩ := q101
  have N101 := Fr.app N0 N101q
  have n_r_101 : Z.heap.size ≤ r_101 := Nat.le_trans O0.1 B101_0
  have z_r_101 : h0.size ≤ r_101 := Nat.le_trans (Nat.le_refl _) B101_0
  have n_q_101 : Z.heap.size ≤ q_101 := Nat.le_trans O0.1 B101_1
  have z_q_101 : h0.size ≤ q_101 := Nat.le_trans (Nat.le_refl _) B101_1
  have K102 : Keep h0 T101.heap [] := ((Keep.refl h0 []).trans K101 all0)
  exact Go.retA C X101 rfl d13_4 rfl rfl rfl ⟨r_101, q_101, kq_101, rfl, N101, K102, z_r_101, z_q_101, P101_0, P101_1, P101_2⟩ (by decide) (by decide)
def Q_jI3 (Z : State) (j : Addr) (sr : Addr) (x0 : Int32) (a : Addr) (d : Addr) (w : Addr) (kw : ClassId) (mr : Addr) (h0 : Heap) (rv : Option Value) (h : Heap) (L : List Loc) : Prop := ∃ r : Addr, ∃ q : Addr, ∃ kq : ClassId, rv = none ∧ Fr Z.heap.size L ∧ Keep h0 h [j] ∧ h0.size ≤ r ∧ h0.size ≤ q ∧ Fld Z h j "com/example/tranche/tranche/journal/Journal" "events" "Ljava/util/List;" (.ref r) ∧ Exa Z h r "java/util/ImmutableCollections$ListN" ∧ Fld Z h r "java/util/ImmutableCollections$ListN" "elements" "[Ljava/lang/Object;" (.ref q) ∧ AL Z h q kq (.object "java/lang/Object") [(.ref d), (.ref d), (.ref d)]
set_option maxRecDepth 65536 in
set_option maxHeartbeats 40000000 in
theorem rm_jI3 (l : Launch) (Z : State) (a0 : Array Value) (hw : ∀ d ∈ tables_1, d.before a0 Z = true) (j : Addr) (sr : Addr) (x0 : Int32) (a : Addr) (d : Addr) (w : Addr) (kw : ClassId) (mr : Addr) (h0 : Heap) (O0 : Ext Z.heap h0) (E0 : Exa Z h0 j "com/example/tranche/tranche/journal/Journal") (F1 : Fld Z h0 j "com/example/tranche/tranche/journal/Journal" "source" "Ljava/lang/String;" .null) (F2 : Fld Z h0 j "com/example/tranche/tranche/journal/Journal" "events" "Ljava/util/List;" .null) (F3 : Fld Z h0 j "com/example/tranche/tranche/journal/Journal" "incomplete" "Z" (.int (0 : Int32))) (Ea : Exa Z h0 a "java/util/ArrayList") (Fe : Fld Z h0 a "java/util/ArrayList" "elementData" "[Ljava/lang/Object;" (.ref w)) (Fs : Fld Z h0 a "java/util/ArrayList" "size" "I" (.int (3 : Int32))) (Ew : Exa Z h0 w "[Ljava/lang/Object;") (Aw : AL Z h0 w kw (.object "java/lang/Object") [(.ref d), (.ref d), (.ref d), .null, .null, .null, .null, .null, .null, .null]) (Ed : Exa Z h0 d "com/example/tranche/tranche/journal/DefaultRateChange") (hM : Mir Z "[Ljava/lang/Object;" mr) (hn : Z.heap.size ≤ j) :
    Met1 l Z (⟨"com/example/tranche/tranche/journal/Journal", "<init>", "(Ljava/lang/String;Ljava/util/List;Z)V"⟩ : MethodName) prog_35_method_1_code 4 none ({ frames := 9, cells := 3, slots := 8, locals := 115 } : Room) #[(.ref j), (.ref sr), (.ref a), (.int x0)] h0 (Q_jI3 Z j sr x0 a d w kw mr h0) := by
  refine Met1.of_body (Ls := #[.val (.ref j), .val (.ref sr), .val (.ref a), .val (.int x0)]) pf_12 (fun m => by first | (simp [entryFrame, mkF, argsToLocals, Value.category]; done) | rfl) ?_
  intro p e s m below meth c T0 C X0 e0
  have N0 : Fr Z.heap.size [] := Fr.nil _
  refine Go.aloadN (pc' := 1) C X0 d12_0 rfl rfl rfl ?_
  refine Go.callI (y := (⟨"java/lang/Record", "<init>", "()V"⟩ : MethodName)) (a := j) (pc' := 4) C X0 rfl (tw hw 85 rfl) (tw hw 36 rfl) (by decide) (rm_rec l Z a0 hw j h0 O0 ) (tw hw 39 rfl) (tw hw 38 rfl) e0 (argsL := []) (rest := []) (W := 0) rfl rfl pd_3 rfl (Nat.le_of_eq rfl) rfl (by decide) (by decide) (by decide) (by decide) rfl d12_1 rfl ?_
  intro T101 v101 L101 X101 q101
  obtain ⟨rfl, rfl, e101⟩ := q101
  have N101 := Fr.app N0 (Fr.nil _)
  refine Go.aloadN (pc' := 5) C X101 d12_4 rfl rfl rfl ?_
  refine Go.callS (y := (⟨"java/util/List", "copyOf", "(Ljava/util/Collection;)Ljava/util/List;"⟩ : MethodName)) (pc' := 8) C X101 (tw hw 86 rfl) (tw hw 87 rfl) (by decide) (rm_lco3 l Z a0 hw a d w kw mr h0 O0 Ea Fe Fs Ew Aw Ed hM) (tw hw 89 rfl) (tw hw 88 rfl) e101 (argsL := [(.ref a)]) (rest := []) (W := 0) rfl rfl pd_17 rfl (Nat.le_of_eq rfl) rfl (by decide) (by decide) (by decide) (by decide) d12_5 rfl ?_
  intro T102 v102 L102 X102 q102
  obtain ⟨r_102, q_102, kq_102, rfl, N102q, K102, B102_0, B102_1, P102_0, P102_1, P102_2⟩ := q102
  have N102 := Fr.app N101 N102q
  have n_r_102 : Z.heap.size ≤ r_102 := Nat.le_trans O0.1 B102_0
  have z_r_102 : h0.size ≤ r_102 := Nat.le_trans (Nat.le_refl _) B102_0
  have n_q_102 : Z.heap.size ≤ q_102 := Nat.le_trans O0.1 B102_1
  have z_q_102 : h0.size ≤ q_102 := Nat.le_trans (Nat.le_refl _) B102_1
  refine Go.astoreN (Ls' := #[.val (.ref j), .val (.ref sr), .val (.ref r_102), .val (.int x0)]) (pc' := 9) C X102 d12_8 rfl rfl rfl ?_
  refine Go.aloadN (pc' := 10) C X102 d12_9 rfl rfl rfl ?_
  refine Go.aloadN (pc' := 11) C X102 d12_10 rfl rfl rfl ?_
  have c104 : Fld Z T102.heap j "com/example/tranche/tranche/journal/Journal" "source" "Ljava/lang/String;" .null := (Fld.keep F1 K102 nin0)
  have c105 : Exa Z T102.heap j "com/example/tranche/tranche/journal/Journal" := (Exa.keep E0 K102)
  refine Go.putF (pc' := 14) (host := "") (ty := (.object "java/lang/String")) C X102 (Or.inl (tw hw 115 rfl)) Via.refl rfl c104 c105 (Or.inr ⟨(tw hw 116 rfl), rfl, rfl⟩) (tw hw 80 rfl) (by decide) rfl rfl d12_11 rfl ?_
  intro T103 h103 X103 e103 W103 F103
  have N103 := Fr.snoc X103 N102 hn
  refine Go.aloadN (pc' := 15) C X103 d12_14 rfl rfl rfl ?_
  refine Go.aloadN (pc' := 16) C X103 d12_15 rfl rfl rfl ?_
  have c107 : Fld Z h103 j "com/example/tranche/tranche/journal/Journal" "events" "Ljava/util/List;" .null := (Fld.other W103 (Fld.keep F2 K102 nin0) (Or.inr (slot_ne (Or.inr (tw hw 118 rfl)) (Or.inr (tw hw 116 rfl)) (by decide) (t := (.object "java/util/List")) (t' := (.object "java/lang/String")) (by decide) (by decide))))
  have c108 : Exa Z h103 j "com/example/tranche/tranche/journal/Journal" := (Exa.wr W103 c105)
  refine Go.putF (pc' := 19) (host := "") (ty := (.object "java/util/List")) C X103 (Or.inl (tw hw 117 rfl)) Via.refl e103 c107 c108 (Or.inr ⟨(tw hw 118 rfl), rfl, rfl⟩) (tw hw 80 rfl) (by decide) rfl rfl d12_16 rfl ?_
  intro T106 h106 X106 e106 W106 F106
  have N106 := Fr.snoc X106 N103 hn
  refine Go.aloadN (pc' := 20) C X106 d12_19 rfl rfl rfl ?_
  refine Go.iloadN (pc' := 21) C X106 d12_20 rfl rfl ?_
  have c110 : Fld Z h106 j "com/example/tranche/tranche/journal/Journal" "incomplete" "Z" (.int (0 : Int32)) := (Fld.other W106 (Fld.other W103 (Fld.keep F3 K102 nin0) (Or.inr (slot_ne (Or.inr (tw hw 120 rfl)) (Or.inr (tw hw 116 rfl)) (by decide) (t := .boolean) (t' := (.object "java/lang/String")) (by decide) (by decide)))) (Or.inr (slot_ne (Or.inr (tw hw 120 rfl)) (Or.inr (tw hw 118 rfl)) (by decide) (t := .boolean) (t' := (.object "java/util/List")) (by decide) (by decide))))
  have c111 : Exa Z h106 j "com/example/tranche/tranche/journal/Journal" := (Exa.wr W106 c108)
  refine Go.putFN (pc' := 24) (ty := .boolean) (v' := .int (nar .boolean x0)) C X106 (tw hw 119 rfl) Via.refl e106 c110 c111 (Or.inr ⟨(tw hw 120 rfl), rfl, rfl⟩) (tw hw 80 rfl) (by decide) rfl (fits_nar_bool _) d12_21 rfl ?_
  intro T109 h109 X109 e109 W109 F109
  have N109 := Fr.snoc X109 N106 hn
  have K112 : Keep h0 h109 [j] := (((((Keep.refl h0 [j]).trans K102 all0).wr W103 (Or.inl (by simp))).wr W106 (Or.inl (by simp))).wr W109 (Or.inl (by simp)))
  have c113 : Fld Z h109 j "com/example/tranche/tranche/journal/Journal" "events" "Ljava/util/List;" (.ref r_102) := (Fld.other W109 F106 (Or.inr (slot_ne (Or.inr (tw hw 118 rfl)) (Or.inr (tw hw 120 rfl)) (by decide) (t := (.object "java/util/List")) (t' := .boolean) (by decide) (by decide))))
  have c114 : Exa Z h109 r_102 "java/util/ImmutableCollections$ListN" := (Exa.wr W109 (Exa.wr W106 (Exa.wr W103 P102_0)))
  have ne115 : r_102 ≠ j := (Nat.ne_of_gt (Nat.lt_of_lt_of_le E0.lt (Nat.le_trans (Nat.le_refl _) B102_0)))
  have c116 : Fld Z h109 r_102 "java/util/ImmutableCollections$ListN" "elements" "[Ljava/lang/Object;" (.ref q_102) := (Fld.other W109 (Fld.other W106 (Fld.other W103 P102_1 (Or.inl ne115)) (Or.inl ne115)) (Or.inl ne115))
  have ne117 : q_102 ≠ j := (Nat.ne_of_gt (Nat.lt_of_lt_of_le E0.lt (Nat.le_trans (Nat.le_refl _) B102_1)))
  have c118 : AL Z h109 q_102 kq_102 (.object "java/lang/Object") [(.ref d), (.ref d), (.ref d)] := (AL.other W109 (AL.other W106 (AL.other W103 P102_2 ne117) ne117) ne117)
  exact Go.retV C X109 rfl d12_24 (by rw [e109]; exact ⟨r_102, q_102, kq_102, rfl, N109, K112, z_r_102, z_q_102, c113, c114, c116, c118⟩) (by decide) (by decide)
def Q_sz3 (Z : State) (r : Addr) (q : Addr) (kq : ClassId) (d : Addr) (h0 : Heap) (rv : Option Value) (h : Heap) (L : List Loc) : Prop := rv = some (.int (3 : Int32)) ∧ L = [] ∧ h = h0
set_option maxRecDepth 65536 in
set_option maxHeartbeats 40000000 in
theorem rm_sz3 (l : Launch) (Z : State) (a0 : Array Value) (hw : ∀ d ∈ tables_1, d.before a0 Z = true) (r : Addr) (q : Addr) (kq : ClassId) (d : Addr) (h0 : Heap) (O0 : Ext Z.heap h0) (Er : Exa Z h0 r "java/util/ImmutableCollections$ListN") (Fr_ : Fld Z h0 r "java/util/ImmutableCollections$ListN" "elements" "[Ljava/lang/Object;" (.ref q)) (Aq : AL Z h0 q kq (.object "java/lang/Object") [(.ref d), (.ref d), (.ref d)]) :
    Met1 l Z (⟨"java/util/ImmutableCollections$ListN", "size", "()I"⟩ : MethodName) jdk_45_method_3_code 1 (some .int) ({ frames := 0, cells := 0, slots := 0, locals := 0 } : Room) #[(.ref r)] h0 (Q_sz3 Z r q kq d h0) := by
  refine Met1.of_body (Ls := #[.val (.ref r)]) pf_23 (fun m => by first | (simp [entryFrame, mkF, argsToLocals, Value.category]; done) | rfl) ?_
  intro p e s m below meth c T0 C X0 e0
  have N0 : Fr Z.heap.size [] := Fr.nil _
  refine Go.aloadN (pc' := 1) C X0 d23_0 rfl rfl rfl ?_
  refine Go.getF (pc' := 4) (host := "") C X0 (Or.inl (tw hw 165 rfl)) Via.refl e0 Fr_ d23_1 rfl ?_
  intro T101 X101 e101
  refine Go.alen (z := (3 : Int32)) (pc' := 5) C X101 e101 Aq rfl d23_4 rfl ?_
  exact Go.retI C X101 rfl d23_5 (by rw [e101]; exact ⟨rfl, rfl, rfl⟩) (by decide) (by decide)
def Q_nl3 (Z : State) (j : Addr) (r : Addr) (q : Addr) (kq : ClassId) (d : Addr) (h0 : Heap) (rv : Option Value) (h : Heap) (L : List Loc) : Prop := rv = some (.int (4 : Int32)) ∧ L = [] ∧ h = h0
set_option maxRecDepth 65536 in
set_option maxHeartbeats 40000000 in
theorem rm_nl3 (l : Launch) (Z : State) (a0 : Array Value) (hw : ∀ d ∈ tables_1, d.before a0 Z = true) (j : Addr) (r : Addr) (q : Addr) (kq : ClassId) (d : Addr) (h0 : Heap) (O0 : Ext Z.heap h0) (F2 : Fld Z h0 j "com/example/tranche/tranche/journal/Journal" "events" "Ljava/util/List;" (.ref r)) (Er : Exa Z h0 r "java/util/ImmutableCollections$ListN") (Fr_ : Fld Z h0 r "java/util/ImmutableCollections$ListN" "elements" "[Ljava/lang/Object;" (.ref q)) (Aq : AL Z h0 q kq (.object "java/lang/Object") [(.ref d), (.ref d), (.ref d)]) :
    Met1 l Z (⟨"com/example/tranche/tranche/journal/Journal", "nextLine", "()I"⟩ : MethodName) prog_35_method_2_code 1 (some .int) ({ frames := 1, cells := 0, slots := 0, locals := 12 } : Room) #[(.ref j)] h0 (Q_nl3 Z j r q kq d h0) := by
  refine Met1.of_body (Ls := #[.val (.ref j)]) pf_22 (fun m => by first | (simp [entryFrame, mkF, argsToLocals, Value.category]; done) | rfl) ?_
  intro p e s m below meth c T0 C X0 e0
  have N0 : Fr Z.heap.size [] := Fr.nil _
  refine Go.aloadN (pc' := 1) C X0 d22_0 rfl rfl rfl ?_
  refine Go.getF (pc' := 4) (host := "") C X0 (Or.inl (tw hw 117 rfl)) Via.refl e0 F2 d22_1 rfl ?_
  intro T101 X101 e101
  refine Go.callF (y := (⟨"java/util/List", "size", "()I"⟩ : MethodName)) (z := (⟨"java/util/ImmutableCollections$ListN", "size", "()I"⟩ : MethodName)) (a := r) (pc' := 9) C X101 (tw hw 155 rfl) (tw hw 156 rfl) (tw hw 157 rfl) (tw hw 158 rfl) (tw hw 159 rfl) (tw hw 160 rfl) (tw hw 161 rfl) (tw hw 162 rfl) rfl Er (by decide) (rm_sz3 l Z a0 hw r q kq d h0 O0 Er Fr_ Aq) (tw hw 164 rfl) (tw hw 163 rfl) e101 (argsL := []) (rest := []) (W := 0) rfl rfl pd_18 rfl (Nat.le_of_eq rfl) rfl (by decide) (by decide) (by decide) (by decide) d22_4 rfl ?_
  intro T102 v102 L102 X102 q102
  obtain ⟨rfl, rfl, e102⟩ := q102
  have N102 := Fr.app N0 (Fr.nil _)
  refine Go.iconst (z := (1 : Int32)) (pc' := 10) C X102 d22_9 rfl rfl ?_
  refine Go.iadd (pc' := 11) C X102 d22_10 rfl ?_
  rw [show ((3 : Int32) + (1 : Int32)) = (4 : Int32) from by decide]
  exact Go.retI C X102 rfl d22_11 (by rw [e102]; exact ⟨rfl, (by simp), rfl⟩) (by decide) (by decide)
def Q_lc4 (Z : State) (a : Addr) (d : Addr) (w : Addr) (kw : ClassId) (mr : Addr) (h0 : Heap) (rv : Option Value) (h : Heap) (L : List Loc) : Prop := ∃ r : Addr, ∃ q : Addr, ∃ kq : ClassId, rv = some (.ref r) ∧ Fr Z.heap.size L ∧ Keep h0 h [] ∧ h0.size ≤ r ∧ h0.size ≤ q ∧ Exa Z h r "java/util/ImmutableCollections$ListN" ∧ Fld Z h r "java/util/ImmutableCollections$ListN" "elements" "[Ljava/lang/Object;" (.ref q) ∧ AL Z h q kq (.object "java/lang/Object") [(.ref d), (.ref d), (.ref d), (.ref d)]
set_option maxRecDepth 65536 in
set_option maxHeartbeats 40000000 in
theorem rm_lc4 (l : Launch) (Z : State) (a0 : Array Value) (hw : ∀ d ∈ tables_1, d.before a0 Z = true) (a : Addr) (d : Addr) (w : Addr) (kw : ClassId) (mr : Addr) (h0 : Heap) (O0 : Ext Z.heap h0) (Ea : Exa Z h0 a "java/util/ArrayList") (Fe : Fld Z h0 a "java/util/ArrayList" "elementData" "[Ljava/lang/Object;" (.ref w)) (Fs : Fld Z h0 a "java/util/ArrayList" "size" "I" (.int (4 : Int32))) (Ew : Exa Z h0 w "[Ljava/lang/Object;") (Aw : AL Z h0 w kw (.object "java/lang/Object") [(.ref d), (.ref d), (.ref d), (.ref d), .null, .null, .null, .null, .null, .null]) (Ed : Exa Z h0 d "com/example/tranche/tranche/journal/DefaultRateChange") (hM : Mir Z "[Ljava/lang/Object;" mr) :
    Met1 l Z (⟨"java/util/ImmutableCollections", "listCopy", "(Ljava/util/Collection;)Ljava/util/List;"⟩ : MethodName) jdk_56_method_3_code 2 (some (.object "java/util/List")) ({ frames := 7, cells := 3, slots := 10, locals := 90 } : Room) #[(.ref a)] h0 (Q_lc4 Z a d w kw mr h0) := by
  refine Met1.of_body (Ls := #[.val (.ref a), .unset]) pf_14 (fun m => by first | (simp [entryFrame, mkF, argsToLocals, Value.category]; done) | rfl) ?_
  intro p e s m below meth c T0 C X0 e0
  have N0 : Fr Z.heap.size [] := Fr.nil _
  refine Go.aloadN (pc' := 1) C X0 d14_0 rfl rfl rfl ?_
  refine Go.instNo (pc' := 4) C X0 (tw hw 94 rfl) e0 Ea (NS.noI (tw hw 95 rfl) (tw hw 230 rfl) (NS.step (tw hw 95 rfl) (NS.step (tw hw 96 rfl) (NS.step (tw hw 97 rfl) (NS.rootI (tw hw 98 rfl) (tw hw 230 rfl) (by decide)) (by decide)) (by decide)) (by decide)) (by decide)) d14_1 rfl ?_
  intro T101 X101 e101
  refine Go.ifNo (pc' := 7) C X101 d14_4 ((if0 _ _).trans (teq (x := (0 : Int32)) (y := (0 : Int32)) (by decide)).2) rfl ?_
  refine Go.aloadN (pc' := 8) C X101 d14_7 rfl rfl rfl ?_
  refine Go.instNo (pc' := 11) C X101 (tw hw 99 rfl) e101 Ea (NS.noI (tw hw 95 rfl) (tw hw 208 rfl) (NS.step (tw hw 95 rfl) (NS.step (tw hw 96 rfl) (NS.step (tw hw 97 rfl) (NS.rootI (tw hw 98 rfl) (tw hw 208 rfl) (by decide)) (by decide)) (by decide)) (by decide)) (by decide)) d14_8 rfl ?_
  intro T103 X103 e103
  refine Go.ifYes (pc' := 31) C X103 d14_11 ((if0 _ _).trans (teq (x := (0 : Int32)) (y := (0 : Int32)) (by decide)).1) (by decide) (by decide) ?_
  refine Go.aloadN (pc' := 32) C X103 d14_31 rfl rfl rfl ?_
  refine Go.callF (y := (⟨"java/util/Collection", "isEmpty", "()Z"⟩ : MethodName)) (z := (⟨"java/util/ArrayList", "isEmpty", "()Z"⟩ : MethodName)) (a := a) (pc' := 37) C X103 (tw hw 100 rfl) (tw hw 101 rfl) (tw hw 102 rfl) (tw hw 103 rfl) (tw hw 104 rfl) (tw hw 105 rfl) (tw hw 106 rfl) (tw hw 107 rfl) rfl Ea (by decide) (rm_emp4 l Z a0 hw a h0 O0 Fs) (tw hw 108 rfl) (tw hw 57 rfl) e103 (argsL := []) (rest := []) (W := 0) rfl rfl pd_15 rfl (Nat.le_of_eq rfl) rfl (by decide) (by decide) (by decide) (by decide) d14_32 rfl ?_
  intro T105 v105 L105 X105 q105
  obtain ⟨rfl, rfl, e105⟩ := q105
  have N105 := Fr.app N0 (Fr.nil _)
  refine Go.ifYes (pc' := 44) C X105 d14_37 ((if0 _ _).trans (teq (x := (0 : Int32)) (y := (0 : Int32)) (by decide)).1) (by decide) (by decide) ?_
  refine Go.aloadN (pc' := 45) C X105 d14_44 rfl rfl rfl ?_
  refine Go.callF (y := (⟨"java/util/Collection", "toArray", "()[Ljava/lang/Object;"⟩ : MethodName)) (z := (⟨"java/util/ArrayList", "toArray", "()[Ljava/lang/Object;"⟩ : MethodName)) (a := a) (pc' := 50) C X105 (tw hw 167 rfl) (tw hw 168 rfl) (tw hw 169 rfl) (tw hw 170 rfl) (tw hw 171 rfl) (tw hw 172 rfl) (tw hw 173 rfl) (tw hw 107 rfl) rfl Ea (by decide) (rm_ta4 l Z a0 hw a d w kw mr h0 O0 Fe Fs Ew Aw Ed hM) (tw hw 174 rfl) (tw hw 57 rfl) e105 (argsL := []) (rest := []) (W := 0) rfl rfl pd_6 rfl (Nat.le_of_eq rfl) rfl (by decide) (by decide) (by decide) (by decide) d14_45 rfl ?_
  intro T107 v107 L107 X107 q107
  obtain ⟨v_107, kv_107, rfl, N107q, K107, B107_0, P107_0⟩ := q107
  have N107 := Fr.app N105 N107q
  have n_v_107 : Z.heap.size ≤ v_107 := Nat.le_trans O0.1 B107_0
  have z_v_107 : h0.size ≤ v_107 := Nat.le_trans (Nat.le_refl _) B107_0
  have c109 : Exa Z T107.heap d "com/example/tranche/tranche/journal/DefaultRateChange" := (Exa.keep Ed K107)
  have O110 : Ext Z.heap T107.heap := (Ext.keep O0 K107 all0)
  refine Go.callS (y := (⟨"java/util/List", "of", "([Ljava/lang/Object;)Ljava/util/List;"⟩ : MethodName)) (pc' := 53) C X107 (tw hw 197 rfl) (tw hw 198 rfl) (by decide) (rm_lof4 l Z a0 hw d v_107 kv_107 T107.heap O110 P107_0 c109) (tw hw 199 rfl) (tw hw 88 rfl) rfl (argsL := [(.ref v_107)]) (rest := []) (W := 0) rfl rfl pd_14 rfl (Nat.le_of_eq rfl) rfl (by decide) (by decide) (by decide) (by decide) d14_50 rfl ?_
  intro T108 v108 L108 X108 q108
  obtain ⟨r_108, q_108, kq_108, rfl, N108q, K108, B108_0, B108_1, P108_0, P108_1, P108_2⟩ := q108
  have N108 := Fr.app N107 N108q
  have n_r_108 : Z.heap.size ≤ r_108 := Nat.le_trans O110.1 B108_0
  have z_r_108 : h0.size ≤ r_108 := Nat.le_trans (Nat.le_trans (Nat.le_refl _) K107.1) B108_0
  have n_q_108 : Z.heap.size ≤ q_108 := Nat.le_trans O110.1 B108_1
  have z_q_108 : h0.size ≤ q_108 := Nat.le_trans (Nat.le_trans (Nat.le_refl _) K107.1) B108_1
  have K111 : Keep h0 T108.heap [] := (((Keep.refl h0 []).trans K107 all0).trans K108 all0)
  exact Go.retA C X108 rfl d14_53 rfl rfl rfl ⟨r_108, q_108, kq_108, rfl, N108, K111, z_r_108, z_q_108, P108_0, P108_1, P108_2⟩ (by decide) (by decide)
def Q_lco4 (Z : State) (a : Addr) (d : Addr) (w : Addr) (kw : ClassId) (mr : Addr) (h0 : Heap) (rv : Option Value) (h : Heap) (L : List Loc) : Prop := ∃ r : Addr, ∃ q : Addr, ∃ kq : ClassId, rv = some (.ref r) ∧ Fr Z.heap.size L ∧ Keep h0 h [] ∧ h0.size ≤ r ∧ h0.size ≤ q ∧ Exa Z h r "java/util/ImmutableCollections$ListN" ∧ Fld Z h r "java/util/ImmutableCollections$ListN" "elements" "[Ljava/lang/Object;" (.ref q) ∧ AL Z h q kq (.object "java/lang/Object") [(.ref d), (.ref d), (.ref d), (.ref d)]
set_option maxRecDepth 65536 in
set_option maxHeartbeats 40000000 in
theorem rm_lco4 (l : Launch) (Z : State) (a0 : Array Value) (hw : ∀ d ∈ tables_1, d.before a0 Z = true) (a : Addr) (d : Addr) (w : Addr) (kw : ClassId) (mr : Addr) (h0 : Heap) (O0 : Ext Z.heap h0) (Ea : Exa Z h0 a "java/util/ArrayList") (Fe : Fld Z h0 a "java/util/ArrayList" "elementData" "[Ljava/lang/Object;" (.ref w)) (Fs : Fld Z h0 a "java/util/ArrayList" "size" "I" (.int (4 : Int32))) (Ew : Exa Z h0 w "[Ljava/lang/Object;") (Aw : AL Z h0 w kw (.object "java/lang/Object") [(.ref d), (.ref d), (.ref d), (.ref d), .null, .null, .null, .null, .null, .null]) (Ed : Exa Z h0 d "com/example/tranche/tranche/journal/DefaultRateChange") (hM : Mir Z "[Ljava/lang/Object;" mr) :
    Met1 l Z (⟨"java/util/List", "copyOf", "(Ljava/util/Collection;)Ljava/util/List;"⟩ : MethodName) jdk_40_method_48_code 1 (some (.object "java/util/List")) ({ frames := 8, cells := 3, slots := 10, locals := 103 } : Room) #[(.ref a)] h0 (Q_lco4 Z a d w kw mr h0) := by
  refine Met1.of_body (Ls := #[.val (.ref a)]) pf_13 (fun m => by first | (simp [entryFrame, mkF, argsToLocals, Value.category]; done) | rfl) ?_
  intro p e s m below meth c T0 C X0 e0
  have N0 : Fr Z.heap.size [] := Fr.nil _
  refine Go.aloadN (pc' := 1) C X0 d13_0 rfl rfl rfl ?_
  refine Go.callS (y := (⟨"java/util/ImmutableCollections", "listCopy", "(Ljava/util/Collection;)Ljava/util/List;"⟩ : MethodName)) (pc' := 4) C X0 (tw hw 90 rfl) (tw hw 91 rfl) (by decide) (rm_lc4 l Z a0 hw a d w kw mr h0 O0 Ea Fe Fs Ew Aw Ed hM) (tw hw 93 rfl) (tw hw 92 rfl) e0 (argsL := [(.ref a)]) (rest := []) (W := 0) rfl rfl pd_17 rfl (Nat.le_of_eq rfl) rfl (by decide) (by decide) (by decide) (by decide) d13_1 rfl ?_
  intro T101 v101 L101 X101 q101
  obtain ⟨r_101, q_101, kq_101, rfl, N101q, K101, B101_0, B101_1, P101_0, P101_1, P101_2⟩ := q101
  have N101 := Fr.app N0 N101q
  have n_r_101 : Z.heap.size ≤ r_101 := Nat.le_trans O0.1 B101_0
  have z_r_101 : h0.size ≤ r_101 := Nat.le_trans (Nat.le_refl _) B101_0
  have n_q_101 : Z.heap.size ≤ q_101 := Nat.le_trans O0.1 B101_1
  have z_q_101 : h0.size ≤ q_101 := Nat.le_trans (Nat.le_refl _) B101_1
  have K102 : Keep h0 T101.heap [] := ((Keep.refl h0 []).trans K101 all0)
  exact Go.retA C X101 rfl d13_4 rfl rfl rfl ⟨r_101, q_101, kq_101, rfl, N101, K102, z_r_101, z_q_101, P101_0, P101_1, P101_2⟩ (by decide) (by decide)
def Q_jI4 (Z : State) (j : Addr) (sr : Addr) (x0 : Int32) (a : Addr) (d : Addr) (w : Addr) (kw : ClassId) (mr : Addr) (h0 : Heap) (rv : Option Value) (h : Heap) (L : List Loc) : Prop := ∃ r : Addr, ∃ q : Addr, ∃ kq : ClassId, rv = none ∧ Fr Z.heap.size L ∧ Keep h0 h [j] ∧ h0.size ≤ r ∧ h0.size ≤ q ∧ Fld Z h j "com/example/tranche/tranche/journal/Journal" "events" "Ljava/util/List;" (.ref r) ∧ Exa Z h r "java/util/ImmutableCollections$ListN" ∧ Fld Z h r "java/util/ImmutableCollections$ListN" "elements" "[Ljava/lang/Object;" (.ref q) ∧ AL Z h q kq (.object "java/lang/Object") [(.ref d), (.ref d), (.ref d), (.ref d)]
set_option maxRecDepth 65536 in
set_option maxHeartbeats 40000000 in
theorem rm_jI4 (l : Launch) (Z : State) (a0 : Array Value) (hw : ∀ d ∈ tables_1, d.before a0 Z = true) (j : Addr) (sr : Addr) (x0 : Int32) (a : Addr) (d : Addr) (w : Addr) (kw : ClassId) (mr : Addr) (h0 : Heap) (O0 : Ext Z.heap h0) (E0 : Exa Z h0 j "com/example/tranche/tranche/journal/Journal") (F1 : Fld Z h0 j "com/example/tranche/tranche/journal/Journal" "source" "Ljava/lang/String;" .null) (F2 : Fld Z h0 j "com/example/tranche/tranche/journal/Journal" "events" "Ljava/util/List;" .null) (F3 : Fld Z h0 j "com/example/tranche/tranche/journal/Journal" "incomplete" "Z" (.int (0 : Int32))) (Ea : Exa Z h0 a "java/util/ArrayList") (Fe : Fld Z h0 a "java/util/ArrayList" "elementData" "[Ljava/lang/Object;" (.ref w)) (Fs : Fld Z h0 a "java/util/ArrayList" "size" "I" (.int (4 : Int32))) (Ew : Exa Z h0 w "[Ljava/lang/Object;") (Aw : AL Z h0 w kw (.object "java/lang/Object") [(.ref d), (.ref d), (.ref d), (.ref d), .null, .null, .null, .null, .null, .null]) (Ed : Exa Z h0 d "com/example/tranche/tranche/journal/DefaultRateChange") (hM : Mir Z "[Ljava/lang/Object;" mr) (hn : Z.heap.size ≤ j) :
    Met1 l Z (⟨"com/example/tranche/tranche/journal/Journal", "<init>", "(Ljava/lang/String;Ljava/util/List;Z)V"⟩ : MethodName) prog_35_method_1_code 4 none ({ frames := 9, cells := 3, slots := 10, locals := 115 } : Room) #[(.ref j), (.ref sr), (.ref a), (.int x0)] h0 (Q_jI4 Z j sr x0 a d w kw mr h0) := by
  refine Met1.of_body (Ls := #[.val (.ref j), .val (.ref sr), .val (.ref a), .val (.int x0)]) pf_12 (fun m => by first | (simp [entryFrame, mkF, argsToLocals, Value.category]; done) | rfl) ?_
  intro p e s m below meth c T0 C X0 e0
  have N0 : Fr Z.heap.size [] := Fr.nil _
  refine Go.aloadN (pc' := 1) C X0 d12_0 rfl rfl rfl ?_
  refine Go.callI (y := (⟨"java/lang/Record", "<init>", "()V"⟩ : MethodName)) (a := j) (pc' := 4) C X0 rfl (tw hw 85 rfl) (tw hw 36 rfl) (by decide) (rm_rec l Z a0 hw j h0 O0 ) (tw hw 39 rfl) (tw hw 38 rfl) e0 (argsL := []) (rest := []) (W := 0) rfl rfl pd_3 rfl (Nat.le_of_eq rfl) rfl (by decide) (by decide) (by decide) (by decide) rfl d12_1 rfl ?_
  intro T101 v101 L101 X101 q101
  obtain ⟨rfl, rfl, e101⟩ := q101
  have N101 := Fr.app N0 (Fr.nil _)
  refine Go.aloadN (pc' := 5) C X101 d12_4 rfl rfl rfl ?_
  refine Go.callS (y := (⟨"java/util/List", "copyOf", "(Ljava/util/Collection;)Ljava/util/List;"⟩ : MethodName)) (pc' := 8) C X101 (tw hw 86 rfl) (tw hw 87 rfl) (by decide) (rm_lco4 l Z a0 hw a d w kw mr h0 O0 Ea Fe Fs Ew Aw Ed hM) (tw hw 89 rfl) (tw hw 88 rfl) e101 (argsL := [(.ref a)]) (rest := []) (W := 0) rfl rfl pd_17 rfl (Nat.le_of_eq rfl) rfl (by decide) (by decide) (by decide) (by decide) d12_5 rfl ?_
  intro T102 v102 L102 X102 q102
  obtain ⟨r_102, q_102, kq_102, rfl, N102q, K102, B102_0, B102_1, P102_0, P102_1, P102_2⟩ := q102
  have N102 := Fr.app N101 N102q
  have n_r_102 : Z.heap.size ≤ r_102 := Nat.le_trans O0.1 B102_0
  have z_r_102 : h0.size ≤ r_102 := Nat.le_trans (Nat.le_refl _) B102_0
  have n_q_102 : Z.heap.size ≤ q_102 := Nat.le_trans O0.1 B102_1
  have z_q_102 : h0.size ≤ q_102 := Nat.le_trans (Nat.le_refl _) B102_1
  refine Go.astoreN (Ls' := #[.val (.ref j), .val (.ref sr), .val (.ref r_102), .val (.int x0)]) (pc' := 9) C X102 d12_8 rfl rfl rfl ?_
  refine Go.aloadN (pc' := 10) C X102 d12_9 rfl rfl rfl ?_
  refine Go.aloadN (pc' := 11) C X102 d12_10 rfl rfl rfl ?_
  have c104 : Fld Z T102.heap j "com/example/tranche/tranche/journal/Journal" "source" "Ljava/lang/String;" .null := (Fld.keep F1 K102 nin0)
  have c105 : Exa Z T102.heap j "com/example/tranche/tranche/journal/Journal" := (Exa.keep E0 K102)
  refine Go.putF (pc' := 14) (host := "") (ty := (.object "java/lang/String")) C X102 (Or.inl (tw hw 115 rfl)) Via.refl rfl c104 c105 (Or.inr ⟨(tw hw 116 rfl), rfl, rfl⟩) (tw hw 80 rfl) (by decide) rfl rfl d12_11 rfl ?_
  intro T103 h103 X103 e103 W103 F103
  have N103 := Fr.snoc X103 N102 hn
  refine Go.aloadN (pc' := 15) C X103 d12_14 rfl rfl rfl ?_
  refine Go.aloadN (pc' := 16) C X103 d12_15 rfl rfl rfl ?_
  have c107 : Fld Z h103 j "com/example/tranche/tranche/journal/Journal" "events" "Ljava/util/List;" .null := (Fld.other W103 (Fld.keep F2 K102 nin0) (Or.inr (slot_ne (Or.inr (tw hw 118 rfl)) (Or.inr (tw hw 116 rfl)) (by decide) (t := (.object "java/util/List")) (t' := (.object "java/lang/String")) (by decide) (by decide))))
  have c108 : Exa Z h103 j "com/example/tranche/tranche/journal/Journal" := (Exa.wr W103 c105)
  refine Go.putF (pc' := 19) (host := "") (ty := (.object "java/util/List")) C X103 (Or.inl (tw hw 117 rfl)) Via.refl e103 c107 c108 (Or.inr ⟨(tw hw 118 rfl), rfl, rfl⟩) (tw hw 80 rfl) (by decide) rfl rfl d12_16 rfl ?_
  intro T106 h106 X106 e106 W106 F106
  have N106 := Fr.snoc X106 N103 hn
  refine Go.aloadN (pc' := 20) C X106 d12_19 rfl rfl rfl ?_
  refine Go.iloadN (pc' := 21) C X106 d12_20 rfl rfl ?_
  have c110 : Fld Z h106 j "com/example/tranche/tranche/journal/Journal" "incomplete" "Z" (.int (0 : Int32)) := (Fld.other W106 (Fld.other W103 (Fld.keep F3 K102 nin0) (Or.inr (slot_ne (Or.inr (tw hw 120 rfl)) (Or.inr (tw hw 116 rfl)) (by decide) (t := .boolean) (t' := (.object "java/lang/String")) (by decide) (by decide)))) (Or.inr (slot_ne (Or.inr (tw hw 120 rfl)) (Or.inr (tw hw 118 rfl)) (by decide) (t := .boolean) (t' := (.object "java/util/List")) (by decide) (by decide))))
  have c111 : Exa Z h106 j "com/example/tranche/tranche/journal/Journal" := (Exa.wr W106 c108)
  refine Go.putFN (pc' := 24) (ty := .boolean) (v' := .int (nar .boolean x0)) C X106 (tw hw 119 rfl) Via.refl e106 c110 c111 (Or.inr ⟨(tw hw 120 rfl), rfl, rfl⟩) (tw hw 80 rfl) (by decide) rfl (fits_nar_bool _) d12_21 rfl ?_
  intro T109 h109 X109 e109 W109 F109
  have N109 := Fr.snoc X109 N106 hn
  have K112 : Keep h0 h109 [j] := (((((Keep.refl h0 [j]).trans K102 all0).wr W103 (Or.inl (by simp))).wr W106 (Or.inl (by simp))).wr W109 (Or.inl (by simp)))
  have c113 : Fld Z h109 j "com/example/tranche/tranche/journal/Journal" "events" "Ljava/util/List;" (.ref r_102) := (Fld.other W109 F106 (Or.inr (slot_ne (Or.inr (tw hw 118 rfl)) (Or.inr (tw hw 120 rfl)) (by decide) (t := (.object "java/util/List")) (t' := .boolean) (by decide) (by decide))))
  have c114 : Exa Z h109 r_102 "java/util/ImmutableCollections$ListN" := (Exa.wr W109 (Exa.wr W106 (Exa.wr W103 P102_0)))
  have ne115 : r_102 ≠ j := (Nat.ne_of_gt (Nat.lt_of_lt_of_le E0.lt (Nat.le_trans (Nat.le_refl _) B102_0)))
  have c116 : Fld Z h109 r_102 "java/util/ImmutableCollections$ListN" "elements" "[Ljava/lang/Object;" (.ref q_102) := (Fld.other W109 (Fld.other W106 (Fld.other W103 P102_1 (Or.inl ne115)) (Or.inl ne115)) (Or.inl ne115))
  have ne117 : q_102 ≠ j := (Nat.ne_of_gt (Nat.lt_of_lt_of_le E0.lt (Nat.le_trans (Nat.le_refl _) B102_1)))
  have c118 : AL Z h109 q_102 kq_102 (.object "java/lang/Object") [(.ref d), (.ref d), (.ref d), (.ref d)] := (AL.other W109 (AL.other W106 (AL.other W103 P102_2 ne117) ne117) ne117)
  exact Go.retV C X109 rfl d12_24 (by rw [e109]; exact ⟨r_102, q_102, kq_102, rfl, N109, K112, z_r_102, z_q_102, c113, c114, c116, c118⟩) (by decide) (by decide)
def Q_sz4 (Z : State) (r : Addr) (q : Addr) (kq : ClassId) (d : Addr) (h0 : Heap) (rv : Option Value) (h : Heap) (L : List Loc) : Prop := rv = some (.int (4 : Int32)) ∧ L = [] ∧ h = h0
set_option maxRecDepth 65536 in
set_option maxHeartbeats 40000000 in
theorem rm_sz4 (l : Launch) (Z : State) (a0 : Array Value) (hw : ∀ d ∈ tables_1, d.before a0 Z = true) (r : Addr) (q : Addr) (kq : ClassId) (d : Addr) (h0 : Heap) (O0 : Ext Z.heap h0) (Er : Exa Z h0 r "java/util/ImmutableCollections$ListN") (Fr_ : Fld Z h0 r "java/util/ImmutableCollections$ListN" "elements" "[Ljava/lang/Object;" (.ref q)) (Aq : AL Z h0 q kq (.object "java/lang/Object") [(.ref d), (.ref d), (.ref d), (.ref d)]) :
    Met1 l Z (⟨"java/util/ImmutableCollections$ListN", "size", "()I"⟩ : MethodName) jdk_45_method_3_code 1 (some .int) ({ frames := 0, cells := 0, slots := 0, locals := 0 } : Room) #[(.ref r)] h0 (Q_sz4 Z r q kq d h0) := by
  refine Met1.of_body (Ls := #[.val (.ref r)]) pf_23 (fun m => by first | (simp [entryFrame, mkF, argsToLocals, Value.category]; done) | rfl) ?_
  intro p e s m below meth c T0 C X0 e0
  have N0 : Fr Z.heap.size [] := Fr.nil _
  refine Go.aloadN (pc' := 1) C X0 d23_0 rfl rfl rfl ?_
  refine Go.getF (pc' := 4) (host := "") C X0 (Or.inl (tw hw 165 rfl)) Via.refl e0 Fr_ d23_1 rfl ?_
  intro T101 X101 e101
  refine Go.alen (z := (4 : Int32)) (pc' := 5) C X101 e101 Aq rfl d23_4 rfl ?_
  exact Go.retI C X101 rfl d23_5 (by rw [e101]; exact ⟨rfl, rfl, rfl⟩) (by decide) (by decide)
def Q_nl4 (Z : State) (j : Addr) (r : Addr) (q : Addr) (kq : ClassId) (d : Addr) (h0 : Heap) (rv : Option Value) (h : Heap) (L : List Loc) : Prop := rv = some (.int (5 : Int32)) ∧ L = [] ∧ h = h0
set_option maxRecDepth 65536 in
set_option maxHeartbeats 40000000 in
theorem rm_nl4 (l : Launch) (Z : State) (a0 : Array Value) (hw : ∀ d ∈ tables_1, d.before a0 Z = true) (j : Addr) (r : Addr) (q : Addr) (kq : ClassId) (d : Addr) (h0 : Heap) (O0 : Ext Z.heap h0) (F2 : Fld Z h0 j "com/example/tranche/tranche/journal/Journal" "events" "Ljava/util/List;" (.ref r)) (Er : Exa Z h0 r "java/util/ImmutableCollections$ListN") (Fr_ : Fld Z h0 r "java/util/ImmutableCollections$ListN" "elements" "[Ljava/lang/Object;" (.ref q)) (Aq : AL Z h0 q kq (.object "java/lang/Object") [(.ref d), (.ref d), (.ref d), (.ref d)]) :
    Met1 l Z (⟨"com/example/tranche/tranche/journal/Journal", "nextLine", "()I"⟩ : MethodName) prog_35_method_2_code 1 (some .int) ({ frames := 1, cells := 0, slots := 0, locals := 12 } : Room) #[(.ref j)] h0 (Q_nl4 Z j r q kq d h0) := by
  refine Met1.of_body (Ls := #[.val (.ref j)]) pf_22 (fun m => by first | (simp [entryFrame, mkF, argsToLocals, Value.category]; done) | rfl) ?_
  intro p e s m below meth c T0 C X0 e0
  have N0 : Fr Z.heap.size [] := Fr.nil _
  refine Go.aloadN (pc' := 1) C X0 d22_0 rfl rfl rfl ?_
  refine Go.getF (pc' := 4) (host := "") C X0 (Or.inl (tw hw 117 rfl)) Via.refl e0 F2 d22_1 rfl ?_
  intro T101 X101 e101
  refine Go.callF (y := (⟨"java/util/List", "size", "()I"⟩ : MethodName)) (z := (⟨"java/util/ImmutableCollections$ListN", "size", "()I"⟩ : MethodName)) (a := r) (pc' := 9) C X101 (tw hw 155 rfl) (tw hw 156 rfl) (tw hw 157 rfl) (tw hw 158 rfl) (tw hw 159 rfl) (tw hw 160 rfl) (tw hw 161 rfl) (tw hw 162 rfl) rfl Er (by decide) (rm_sz4 l Z a0 hw r q kq d h0 O0 Er Fr_ Aq) (tw hw 164 rfl) (tw hw 163 rfl) e101 (argsL := []) (rest := []) (W := 0) rfl rfl pd_18 rfl (Nat.le_of_eq rfl) rfl (by decide) (by decide) (by decide) (by decide) d22_4 rfl ?_
  intro T102 v102 L102 X102 q102
  obtain ⟨rfl, rfl, e102⟩ := q102
  have N102 := Fr.app N0 (Fr.nil _)
  refine Go.iconst (z := (1 : Int32)) (pc' := 10) C X102 d22_9 rfl rfl ?_
  refine Go.iadd (pc' := 11) C X102 d22_10 rfl ?_
  rw [show ((4 : Int32) + (1 : Int32)) = (5 : Int32) from by decide]
  exact Go.retI C X102 rfl d22_11 (by rw [e102]; exact ⟨rfl, (by simp), rfl⟩) (by decide) (by decide)
def Q_lc5 (Z : State) (a : Addr) (d : Addr) (w : Addr) (kw : ClassId) (mr : Addr) (h0 : Heap) (rv : Option Value) (h : Heap) (L : List Loc) : Prop := ∃ r : Addr, ∃ q : Addr, ∃ kq : ClassId, rv = some (.ref r) ∧ Fr Z.heap.size L ∧ Keep h0 h [] ∧ h0.size ≤ r ∧ h0.size ≤ q ∧ Exa Z h r "java/util/ImmutableCollections$ListN" ∧ Fld Z h r "java/util/ImmutableCollections$ListN" "elements" "[Ljava/lang/Object;" (.ref q) ∧ AL Z h q kq (.object "java/lang/Object") [(.ref d), (.ref d), (.ref d), (.ref d), (.ref d)]
set_option maxRecDepth 65536 in
set_option maxHeartbeats 40000000 in
theorem rm_lc5 (l : Launch) (Z : State) (a0 : Array Value) (hw : ∀ d ∈ tables_1, d.before a0 Z = true) (a : Addr) (d : Addr) (w : Addr) (kw : ClassId) (mr : Addr) (h0 : Heap) (O0 : Ext Z.heap h0) (Ea : Exa Z h0 a "java/util/ArrayList") (Fe : Fld Z h0 a "java/util/ArrayList" "elementData" "[Ljava/lang/Object;" (.ref w)) (Fs : Fld Z h0 a "java/util/ArrayList" "size" "I" (.int (5 : Int32))) (Ew : Exa Z h0 w "[Ljava/lang/Object;") (Aw : AL Z h0 w kw (.object "java/lang/Object") [(.ref d), (.ref d), (.ref d), (.ref d), (.ref d), .null, .null, .null, .null, .null]) (Ed : Exa Z h0 d "com/example/tranche/tranche/journal/DefaultRateChange") (hM : Mir Z "[Ljava/lang/Object;" mr) :
    Met1 l Z (⟨"java/util/ImmutableCollections", "listCopy", "(Ljava/util/Collection;)Ljava/util/List;"⟩ : MethodName) jdk_56_method_3_code 2 (some (.object "java/util/List")) ({ frames := 7, cells := 3, slots := 12, locals := 90 } : Room) #[(.ref a)] h0 (Q_lc5 Z a d w kw mr h0) := by
  refine Met1.of_body (Ls := #[.val (.ref a), .unset]) pf_14 (fun m => by first | (simp [entryFrame, mkF, argsToLocals, Value.category]; done) | rfl) ?_
  intro p e s m below meth c T0 C X0 e0
  have N0 : Fr Z.heap.size [] := Fr.nil _
  refine Go.aloadN (pc' := 1) C X0 d14_0 rfl rfl rfl ?_
  refine Go.instNo (pc' := 4) C X0 (tw hw 94 rfl) e0 Ea (NS.noI (tw hw 95 rfl) (tw hw 230 rfl) (NS.step (tw hw 95 rfl) (NS.step (tw hw 96 rfl) (NS.step (tw hw 97 rfl) (NS.rootI (tw hw 98 rfl) (tw hw 230 rfl) (by decide)) (by decide)) (by decide)) (by decide)) (by decide)) d14_1 rfl ?_
  intro T101 X101 e101
  refine Go.ifNo (pc' := 7) C X101 d14_4 ((if0 _ _).trans (teq (x := (0 : Int32)) (y := (0 : Int32)) (by decide)).2) rfl ?_
  refine Go.aloadN (pc' := 8) C X101 d14_7 rfl rfl rfl ?_
  refine Go.instNo (pc' := 11) C X101 (tw hw 99 rfl) e101 Ea (NS.noI (tw hw 95 rfl) (tw hw 208 rfl) (NS.step (tw hw 95 rfl) (NS.step (tw hw 96 rfl) (NS.step (tw hw 97 rfl) (NS.rootI (tw hw 98 rfl) (tw hw 208 rfl) (by decide)) (by decide)) (by decide)) (by decide)) (by decide)) d14_8 rfl ?_
  intro T103 X103 e103
  refine Go.ifYes (pc' := 31) C X103 d14_11 ((if0 _ _).trans (teq (x := (0 : Int32)) (y := (0 : Int32)) (by decide)).1) (by decide) (by decide) ?_
  refine Go.aloadN (pc' := 32) C X103 d14_31 rfl rfl rfl ?_
  refine Go.callF (y := (⟨"java/util/Collection", "isEmpty", "()Z"⟩ : MethodName)) (z := (⟨"java/util/ArrayList", "isEmpty", "()Z"⟩ : MethodName)) (a := a) (pc' := 37) C X103 (tw hw 100 rfl) (tw hw 101 rfl) (tw hw 102 rfl) (tw hw 103 rfl) (tw hw 104 rfl) (tw hw 105 rfl) (tw hw 106 rfl) (tw hw 107 rfl) rfl Ea (by decide) (rm_emp5 l Z a0 hw a h0 O0 Fs) (tw hw 108 rfl) (tw hw 57 rfl) e103 (argsL := []) (rest := []) (W := 0) rfl rfl pd_15 rfl (Nat.le_of_eq rfl) rfl (by decide) (by decide) (by decide) (by decide) d14_32 rfl ?_
  intro T105 v105 L105 X105 q105
  obtain ⟨rfl, rfl, e105⟩ := q105
  have N105 := Fr.app N0 (Fr.nil _)
  refine Go.ifYes (pc' := 44) C X105 d14_37 ((if0 _ _).trans (teq (x := (0 : Int32)) (y := (0 : Int32)) (by decide)).1) (by decide) (by decide) ?_
  refine Go.aloadN (pc' := 45) C X105 d14_44 rfl rfl rfl ?_
  refine Go.callF (y := (⟨"java/util/Collection", "toArray", "()[Ljava/lang/Object;"⟩ : MethodName)) (z := (⟨"java/util/ArrayList", "toArray", "()[Ljava/lang/Object;"⟩ : MethodName)) (a := a) (pc' := 50) C X105 (tw hw 167 rfl) (tw hw 168 rfl) (tw hw 169 rfl) (tw hw 170 rfl) (tw hw 171 rfl) (tw hw 172 rfl) (tw hw 173 rfl) (tw hw 107 rfl) rfl Ea (by decide) (rm_ta5 l Z a0 hw a d w kw mr h0 O0 Fe Fs Ew Aw Ed hM) (tw hw 174 rfl) (tw hw 57 rfl) e105 (argsL := []) (rest := []) (W := 0) rfl rfl pd_6 rfl (Nat.le_of_eq rfl) rfl (by decide) (by decide) (by decide) (by decide) d14_45 rfl ?_
  intro T107 v107 L107 X107 q107
  obtain ⟨v_107, kv_107, rfl, N107q, K107, B107_0, P107_0⟩ := q107
  have N107 := Fr.app N105 N107q
  have n_v_107 : Z.heap.size ≤ v_107 := Nat.le_trans O0.1 B107_0
  have z_v_107 : h0.size ≤ v_107 := Nat.le_trans (Nat.le_refl _) B107_0
  have c109 : Exa Z T107.heap d "com/example/tranche/tranche/journal/DefaultRateChange" := (Exa.keep Ed K107)
  have O110 : Ext Z.heap T107.heap := (Ext.keep O0 K107 all0)
  refine Go.callS (y := (⟨"java/util/List", "of", "([Ljava/lang/Object;)Ljava/util/List;"⟩ : MethodName)) (pc' := 53) C X107 (tw hw 197 rfl) (tw hw 198 rfl) (by decide) (rm_lof5 l Z a0 hw d v_107 kv_107 T107.heap O110 P107_0 c109) (tw hw 199 rfl) (tw hw 88 rfl) rfl (argsL := [(.ref v_107)]) (rest := []) (W := 0) rfl rfl pd_14 rfl (Nat.le_of_eq rfl) rfl (by decide) (by decide) (by decide) (by decide) d14_50 rfl ?_
  intro T108 v108 L108 X108 q108
  obtain ⟨r_108, q_108, kq_108, rfl, N108q, K108, B108_0, B108_1, P108_0, P108_1, P108_2⟩ := q108
  have N108 := Fr.app N107 N108q
  have n_r_108 : Z.heap.size ≤ r_108 := Nat.le_trans O110.1 B108_0
  have z_r_108 : h0.size ≤ r_108 := Nat.le_trans (Nat.le_trans (Nat.le_refl _) K107.1) B108_0
  have n_q_108 : Z.heap.size ≤ q_108 := Nat.le_trans O110.1 B108_1
  have z_q_108 : h0.size ≤ q_108 := Nat.le_trans (Nat.le_trans (Nat.le_refl _) K107.1) B108_1
  have K111 : Keep h0 T108.heap [] := (((Keep.refl h0 []).trans K107 all0).trans K108 all0)
  exact Go.retA C X108 rfl d14_53 rfl rfl rfl ⟨r_108, q_108, kq_108, rfl, N108, K111, z_r_108, z_q_108, P108_0, P108_1, P108_2⟩ (by decide) (by decide)
def Q_lco5 (Z : State) (a : Addr) (d : Addr) (w : Addr) (kw : ClassId) (mr : Addr) (h0 : Heap) (rv : Option Value) (h : Heap) (L : List Loc) : Prop := ∃ r : Addr, ∃ q : Addr, ∃ kq : ClassId, rv = some (.ref r) ∧ Fr Z.heap.size L ∧ Keep h0 h [] ∧ h0.size ≤ r ∧ h0.size ≤ q ∧ Exa Z h r "java/util/ImmutableCollections$ListN" ∧ Fld Z h r "java/util/ImmutableCollections$ListN" "elements" "[Ljava/lang/Object;" (.ref q) ∧ AL Z h q kq (.object "java/lang/Object") [(.ref d), (.ref d), (.ref d), (.ref d), (.ref d)]
set_option maxRecDepth 65536 in
set_option maxHeartbeats 40000000 in
theorem rm_lco5 (l : Launch) (Z : State) (a0 : Array Value) (hw : ∀ d ∈ tables_1, d.before a0 Z = true) (a : Addr) (d : Addr) (w : Addr) (kw : ClassId) (mr : Addr) (h0 : Heap) (O0 : Ext Z.heap h0) (Ea : Exa Z h0 a "java/util/ArrayList") (Fe : Fld Z h0 a "java/util/ArrayList" "elementData" "[Ljava/lang/Object;" (.ref w)) (Fs : Fld Z h0 a "java/util/ArrayList" "size" "I" (.int (5 : Int32))) (Ew : Exa Z h0 w "[Ljava/lang/Object;") (Aw : AL Z h0 w kw (.object "java/lang/Object") [(.ref d), (.ref d), (.ref d), (.ref d), (.ref d), .null, .null, .null, .null, .null]) (Ed : Exa Z h0 d "com/example/tranche/tranche/journal/DefaultRateChange") (hM : Mir Z "[Ljava/lang/Object;" mr) :
    Met1 l Z (⟨"java/util/List", "copyOf", "(Ljava/util/Collection;)Ljava/util/List;"⟩ : MethodName) jdk_40_method_48_code 1 (some (.object "java/util/List")) ({ frames := 8, cells := 3, slots := 12, locals := 103 } : Room) #[(.ref a)] h0 (Q_lco5 Z a d w kw mr h0) := by
  refine Met1.of_body (Ls := #[.val (.ref a)]) pf_13 (fun m => by first | (simp [entryFrame, mkF, argsToLocals, Value.category]; done) | rfl) ?_
  intro p e s m below meth c T0 C X0 e0
  have N0 : Fr Z.heap.size [] := Fr.nil _
  refine Go.aloadN (pc' := 1) C X0 d13_0 rfl rfl rfl ?_
  refine Go.callS (y := (⟨"java/util/ImmutableCollections", "listCopy", "(Ljava/util/Collection;)Ljava/util/List;"⟩ : MethodName)) (pc' := 4) C X0 (tw hw 90 rfl) (tw hw 91 rfl) (by decide) (rm_lc5 l Z a0 hw a d w kw mr h0 O0 Ea Fe Fs Ew Aw Ed hM) (tw hw 93 rfl) (tw hw 92 rfl) e0 (argsL := [(.ref a)]) (rest := []) (W := 0) rfl rfl pd_17 rfl (Nat.le_of_eq rfl) rfl (by decide) (by decide) (by decide) (by decide) d13_1 rfl ?_
  intro T101 v101 L101 X101 q101
  obtain ⟨r_101, q_101, kq_101, rfl, N101q, K101, B101_0, B101_1, P101_0, P101_1, P101_2⟩ := q101
  have N101 := Fr.app N0 N101q
  have n_r_101 : Z.heap.size ≤ r_101 := Nat.le_trans O0.1 B101_0
  have z_r_101 : h0.size ≤ r_101 := Nat.le_trans (Nat.le_refl _) B101_0
  have n_q_101 : Z.heap.size ≤ q_101 := Nat.le_trans O0.1 B101_1
  have z_q_101 : h0.size ≤ q_101 := Nat.le_trans (Nat.le_refl _) B101_1
  have K102 : Keep h0 T101.heap [] := ((Keep.refl h0 []).trans K101 all0)
  exact Go.retA C X101 rfl d13_4 rfl rfl rfl ⟨r_101, q_101, kq_101, rfl, N101, K102, z_r_101, z_q_101, P101_0, P101_1, P101_2⟩ (by decide) (by decide)
def Q_jI5 (Z : State) (j : Addr) (sr : Addr) (x0 : Int32) (a : Addr) (d : Addr) (w : Addr) (kw : ClassId) (mr : Addr) (h0 : Heap) (rv : Option Value) (h : Heap) (L : List Loc) : Prop := ∃ r : Addr, ∃ q : Addr, ∃ kq : ClassId, rv = none ∧ Fr Z.heap.size L ∧ Keep h0 h [j] ∧ h0.size ≤ r ∧ h0.size ≤ q ∧ Fld Z h j "com/example/tranche/tranche/journal/Journal" "events" "Ljava/util/List;" (.ref r) ∧ Exa Z h r "java/util/ImmutableCollections$ListN" ∧ Fld Z h r "java/util/ImmutableCollections$ListN" "elements" "[Ljava/lang/Object;" (.ref q) ∧ AL Z h q kq (.object "java/lang/Object") [(.ref d), (.ref d), (.ref d), (.ref d), (.ref d)]
set_option maxRecDepth 65536 in
set_option maxHeartbeats 40000000 in
theorem rm_jI5 (l : Launch) (Z : State) (a0 : Array Value) (hw : ∀ d ∈ tables_1, d.before a0 Z = true) (j : Addr) (sr : Addr) (x0 : Int32) (a : Addr) (d : Addr) (w : Addr) (kw : ClassId) (mr : Addr) (h0 : Heap) (O0 : Ext Z.heap h0) (E0 : Exa Z h0 j "com/example/tranche/tranche/journal/Journal") (F1 : Fld Z h0 j "com/example/tranche/tranche/journal/Journal" "source" "Ljava/lang/String;" .null) (F2 : Fld Z h0 j "com/example/tranche/tranche/journal/Journal" "events" "Ljava/util/List;" .null) (F3 : Fld Z h0 j "com/example/tranche/tranche/journal/Journal" "incomplete" "Z" (.int (0 : Int32))) (Ea : Exa Z h0 a "java/util/ArrayList") (Fe : Fld Z h0 a "java/util/ArrayList" "elementData" "[Ljava/lang/Object;" (.ref w)) (Fs : Fld Z h0 a "java/util/ArrayList" "size" "I" (.int (5 : Int32))) (Ew : Exa Z h0 w "[Ljava/lang/Object;") (Aw : AL Z h0 w kw (.object "java/lang/Object") [(.ref d), (.ref d), (.ref d), (.ref d), (.ref d), .null, .null, .null, .null, .null]) (Ed : Exa Z h0 d "com/example/tranche/tranche/journal/DefaultRateChange") (hM : Mir Z "[Ljava/lang/Object;" mr) (hn : Z.heap.size ≤ j) :
    Met1 l Z (⟨"com/example/tranche/tranche/journal/Journal", "<init>", "(Ljava/lang/String;Ljava/util/List;Z)V"⟩ : MethodName) prog_35_method_1_code 4 none ({ frames := 9, cells := 3, slots := 12, locals := 115 } : Room) #[(.ref j), (.ref sr), (.ref a), (.int x0)] h0 (Q_jI5 Z j sr x0 a d w kw mr h0) := by
  refine Met1.of_body (Ls := #[.val (.ref j), .val (.ref sr), .val (.ref a), .val (.int x0)]) pf_12 (fun m => by first | (simp [entryFrame, mkF, argsToLocals, Value.category]; done) | rfl) ?_
  intro p e s m below meth c T0 C X0 e0
  have N0 : Fr Z.heap.size [] := Fr.nil _
  refine Go.aloadN (pc' := 1) C X0 d12_0 rfl rfl rfl ?_
  refine Go.callI (y := (⟨"java/lang/Record", "<init>", "()V"⟩ : MethodName)) (a := j) (pc' := 4) C X0 rfl (tw hw 85 rfl) (tw hw 36 rfl) (by decide) (rm_rec l Z a0 hw j h0 O0 ) (tw hw 39 rfl) (tw hw 38 rfl) e0 (argsL := []) (rest := []) (W := 0) rfl rfl pd_3 rfl (Nat.le_of_eq rfl) rfl (by decide) (by decide) (by decide) (by decide) rfl d12_1 rfl ?_
  intro T101 v101 L101 X101 q101
  obtain ⟨rfl, rfl, e101⟩ := q101
  have N101 := Fr.app N0 (Fr.nil _)
  refine Go.aloadN (pc' := 5) C X101 d12_4 rfl rfl rfl ?_
  refine Go.callS (y := (⟨"java/util/List", "copyOf", "(Ljava/util/Collection;)Ljava/util/List;"⟩ : MethodName)) (pc' := 8) C X101 (tw hw 86 rfl) (tw hw 87 rfl) (by decide) (rm_lco5 l Z a0 hw a d w kw mr h0 O0 Ea Fe Fs Ew Aw Ed hM) (tw hw 89 rfl) (tw hw 88 rfl) e101 (argsL := [(.ref a)]) (rest := []) (W := 0) rfl rfl pd_17 rfl (Nat.le_of_eq rfl) rfl (by decide) (by decide) (by decide) (by decide) d12_5 rfl ?_
  intro T102 v102 L102 X102 q102
  obtain ⟨r_102, q_102, kq_102, rfl, N102q, K102, B102_0, B102_1, P102_0, P102_1, P102_2⟩ := q102
  have N102 := Fr.app N101 N102q
  have n_r_102 : Z.heap.size ≤ r_102 := Nat.le_trans O0.1 B102_0
  have z_r_102 : h0.size ≤ r_102 := Nat.le_trans (Nat.le_refl _) B102_0
  have n_q_102 : Z.heap.size ≤ q_102 := Nat.le_trans O0.1 B102_1
  have z_q_102 : h0.size ≤ q_102 := Nat.le_trans (Nat.le_refl _) B102_1
  refine Go.astoreN (Ls' := #[.val (.ref j), .val (.ref sr), .val (.ref r_102), .val (.int x0)]) (pc' := 9) C X102 d12_8 rfl rfl rfl ?_
  refine Go.aloadN (pc' := 10) C X102 d12_9 rfl rfl rfl ?_
  refine Go.aloadN (pc' := 11) C X102 d12_10 rfl rfl rfl ?_
  have c104 : Fld Z T102.heap j "com/example/tranche/tranche/journal/Journal" "source" "Ljava/lang/String;" .null := (Fld.keep F1 K102 nin0)
  have c105 : Exa Z T102.heap j "com/example/tranche/tranche/journal/Journal" := (Exa.keep E0 K102)
  refine Go.putF (pc' := 14) (host := "") (ty := (.object "java/lang/String")) C X102 (Or.inl (tw hw 115 rfl)) Via.refl rfl c104 c105 (Or.inr ⟨(tw hw 116 rfl), rfl, rfl⟩) (tw hw 80 rfl) (by decide) rfl rfl d12_11 rfl ?_
  intro T103 h103 X103 e103 W103 F103
  have N103 := Fr.snoc X103 N102 hn
  refine Go.aloadN (pc' := 15) C X103 d12_14 rfl rfl rfl ?_
  refine Go.aloadN (pc' := 16) C X103 d12_15 rfl rfl rfl ?_
  have c107 : Fld Z h103 j "com/example/tranche/tranche/journal/Journal" "events" "Ljava/util/List;" .null := (Fld.other W103 (Fld.keep F2 K102 nin0) (Or.inr (slot_ne (Or.inr (tw hw 118 rfl)) (Or.inr (tw hw 116 rfl)) (by decide) (t := (.object "java/util/List")) (t' := (.object "java/lang/String")) (by decide) (by decide))))
  have c108 : Exa Z h103 j "com/example/tranche/tranche/journal/Journal" := (Exa.wr W103 c105)
  refine Go.putF (pc' := 19) (host := "") (ty := (.object "java/util/List")) C X103 (Or.inl (tw hw 117 rfl)) Via.refl e103 c107 c108 (Or.inr ⟨(tw hw 118 rfl), rfl, rfl⟩) (tw hw 80 rfl) (by decide) rfl rfl d12_16 rfl ?_
  intro T106 h106 X106 e106 W106 F106
  have N106 := Fr.snoc X106 N103 hn
  refine Go.aloadN (pc' := 20) C X106 d12_19 rfl rfl rfl ?_
  refine Go.iloadN (pc' := 21) C X106 d12_20 rfl rfl ?_
  have c110 : Fld Z h106 j "com/example/tranche/tranche/journal/Journal" "incomplete" "Z" (.int (0 : Int32)) := (Fld.other W106 (Fld.other W103 (Fld.keep F3 K102 nin0) (Or.inr (slot_ne (Or.inr (tw hw 120 rfl)) (Or.inr (tw hw 116 rfl)) (by decide) (t := .boolean) (t' := (.object "java/lang/String")) (by decide) (by decide)))) (Or.inr (slot_ne (Or.inr (tw hw 120 rfl)) (Or.inr (tw hw 118 rfl)) (by decide) (t := .boolean) (t' := (.object "java/util/List")) (by decide) (by decide))))
  have c111 : Exa Z h106 j "com/example/tranche/tranche/journal/Journal" := (Exa.wr W106 c108)
  refine Go.putFN (pc' := 24) (ty := .boolean) (v' := .int (nar .boolean x0)) C X106 (tw hw 119 rfl) Via.refl e106 c110 c111 (Or.inr ⟨(tw hw 120 rfl), rfl, rfl⟩) (tw hw 80 rfl) (by decide) rfl (fits_nar_bool _) d12_21 rfl ?_
  intro T109 h109 X109 e109 W109 F109
  have N109 := Fr.snoc X109 N106 hn
  have K112 : Keep h0 h109 [j] := (((((Keep.refl h0 [j]).trans K102 all0).wr W103 (Or.inl (by simp))).wr W106 (Or.inl (by simp))).wr W109 (Or.inl (by simp)))
  have c113 : Fld Z h109 j "com/example/tranche/tranche/journal/Journal" "events" "Ljava/util/List;" (.ref r_102) := (Fld.other W109 F106 (Or.inr (slot_ne (Or.inr (tw hw 118 rfl)) (Or.inr (tw hw 120 rfl)) (by decide) (t := (.object "java/util/List")) (t' := .boolean) (by decide) (by decide))))
  have c114 : Exa Z h109 r_102 "java/util/ImmutableCollections$ListN" := (Exa.wr W109 (Exa.wr W106 (Exa.wr W103 P102_0)))
  have ne115 : r_102 ≠ j := (Nat.ne_of_gt (Nat.lt_of_lt_of_le E0.lt (Nat.le_trans (Nat.le_refl _) B102_0)))
  have c116 : Fld Z h109 r_102 "java/util/ImmutableCollections$ListN" "elements" "[Ljava/lang/Object;" (.ref q_102) := (Fld.other W109 (Fld.other W106 (Fld.other W103 P102_1 (Or.inl ne115)) (Or.inl ne115)) (Or.inl ne115))
  have ne117 : q_102 ≠ j := (Nat.ne_of_gt (Nat.lt_of_lt_of_le E0.lt (Nat.le_trans (Nat.le_refl _) B102_1)))
  have c118 : AL Z h109 q_102 kq_102 (.object "java/lang/Object") [(.ref d), (.ref d), (.ref d), (.ref d), (.ref d)] := (AL.other W109 (AL.other W106 (AL.other W103 P102_2 ne117) ne117) ne117)
  exact Go.retV C X109 rfl d12_24 (by rw [e109]; exact ⟨r_102, q_102, kq_102, rfl, N109, K112, z_r_102, z_q_102, c113, c114, c116, c118⟩) (by decide) (by decide)
def Q_sz5 (Z : State) (r : Addr) (q : Addr) (kq : ClassId) (d : Addr) (h0 : Heap) (rv : Option Value) (h : Heap) (L : List Loc) : Prop := rv = some (.int (5 : Int32)) ∧ L = [] ∧ h = h0
set_option maxRecDepth 65536 in
set_option maxHeartbeats 40000000 in
theorem rm_sz5 (l : Launch) (Z : State) (a0 : Array Value) (hw : ∀ d ∈ tables_1, d.before a0 Z = true) (r : Addr) (q : Addr) (kq : ClassId) (d : Addr) (h0 : Heap) (O0 : Ext Z.heap h0) (Er : Exa Z h0 r "java/util/ImmutableCollections$ListN") (Fr_ : Fld Z h0 r "java/util/ImmutableCollections$ListN" "elements" "[Ljava/lang/Object;" (.ref q)) (Aq : AL Z h0 q kq (.object "java/lang/Object") [(.ref d), (.ref d), (.ref d), (.ref d), (.ref d)]) :
    Met1 l Z (⟨"java/util/ImmutableCollections$ListN", "size", "()I"⟩ : MethodName) jdk_45_method_3_code 1 (some .int) ({ frames := 0, cells := 0, slots := 0, locals := 0 } : Room) #[(.ref r)] h0 (Q_sz5 Z r q kq d h0) := by
  refine Met1.of_body (Ls := #[.val (.ref r)]) pf_23 (fun m => by first | (simp [entryFrame, mkF, argsToLocals, Value.category]; done) | rfl) ?_
  intro p e s m below meth c T0 C X0 e0
  have N0 : Fr Z.heap.size [] := Fr.nil _
  refine Go.aloadN (pc' := 1) C X0 d23_0 rfl rfl rfl ?_
  refine Go.getF (pc' := 4) (host := "") C X0 (Or.inl (tw hw 165 rfl)) Via.refl e0 Fr_ d23_1 rfl ?_
  intro T101 X101 e101
  refine Go.alen (z := (5 : Int32)) (pc' := 5) C X101 e101 Aq rfl d23_4 rfl ?_
  exact Go.retI C X101 rfl d23_5 (by rw [e101]; exact ⟨rfl, rfl, rfl⟩) (by decide) (by decide)
def Q_nl5 (Z : State) (j : Addr) (r : Addr) (q : Addr) (kq : ClassId) (d : Addr) (h0 : Heap) (rv : Option Value) (h : Heap) (L : List Loc) : Prop := rv = some (.int (6 : Int32)) ∧ L = [] ∧ h = h0
set_option maxRecDepth 65536 in
set_option maxHeartbeats 40000000 in
theorem rm_nl5 (l : Launch) (Z : State) (a0 : Array Value) (hw : ∀ d ∈ tables_1, d.before a0 Z = true) (j : Addr) (r : Addr) (q : Addr) (kq : ClassId) (d : Addr) (h0 : Heap) (O0 : Ext Z.heap h0) (F2 : Fld Z h0 j "com/example/tranche/tranche/journal/Journal" "events" "Ljava/util/List;" (.ref r)) (Er : Exa Z h0 r "java/util/ImmutableCollections$ListN") (Fr_ : Fld Z h0 r "java/util/ImmutableCollections$ListN" "elements" "[Ljava/lang/Object;" (.ref q)) (Aq : AL Z h0 q kq (.object "java/lang/Object") [(.ref d), (.ref d), (.ref d), (.ref d), (.ref d)]) :
    Met1 l Z (⟨"com/example/tranche/tranche/journal/Journal", "nextLine", "()I"⟩ : MethodName) prog_35_method_2_code 1 (some .int) ({ frames := 1, cells := 0, slots := 0, locals := 12 } : Room) #[(.ref j)] h0 (Q_nl5 Z j r q kq d h0) := by
  refine Met1.of_body (Ls := #[.val (.ref j)]) pf_22 (fun m => by first | (simp [entryFrame, mkF, argsToLocals, Value.category]; done) | rfl) ?_
  intro p e s m below meth c T0 C X0 e0
  have N0 : Fr Z.heap.size [] := Fr.nil _
  refine Go.aloadN (pc' := 1) C X0 d22_0 rfl rfl rfl ?_
  refine Go.getF (pc' := 4) (host := "") C X0 (Or.inl (tw hw 117 rfl)) Via.refl e0 F2 d22_1 rfl ?_
  intro T101 X101 e101
  refine Go.callF (y := (⟨"java/util/List", "size", "()I"⟩ : MethodName)) (z := (⟨"java/util/ImmutableCollections$ListN", "size", "()I"⟩ : MethodName)) (a := r) (pc' := 9) C X101 (tw hw 155 rfl) (tw hw 156 rfl) (tw hw 157 rfl) (tw hw 158 rfl) (tw hw 159 rfl) (tw hw 160 rfl) (tw hw 161 rfl) (tw hw 162 rfl) rfl Er (by decide) (rm_sz5 l Z a0 hw r q kq d h0 O0 Er Fr_ Aq) (tw hw 164 rfl) (tw hw 163 rfl) e101 (argsL := []) (rest := []) (W := 0) rfl rfl pd_18 rfl (Nat.le_of_eq rfl) rfl (by decide) (by decide) (by decide) (by decide) d22_4 rfl ?_
  intro T102 v102 L102 X102 q102
  obtain ⟨rfl, rfl, e102⟩ := q102
  have N102 := Fr.app N0 (Fr.nil _)
  refine Go.iconst (z := (1 : Int32)) (pc' := 10) C X102 d22_9 rfl rfl ?_
  refine Go.iadd (pc' := 11) C X102 d22_10 rfl ?_
  rw [show ((5 : Int32) + (1 : Int32)) = (6 : Int32) from by decide]
  exact Go.retI C X102 rfl d22_11 (by rw [e102]; exact ⟨rfl, (by simp), rfl⟩) (by decide) (by decide)
def Q_lc6 (Z : State) (a : Addr) (d : Addr) (w : Addr) (kw : ClassId) (mr : Addr) (h0 : Heap) (rv : Option Value) (h : Heap) (L : List Loc) : Prop := ∃ r : Addr, ∃ q : Addr, ∃ kq : ClassId, rv = some (.ref r) ∧ Fr Z.heap.size L ∧ Keep h0 h [] ∧ h0.size ≤ r ∧ h0.size ≤ q ∧ Exa Z h r "java/util/ImmutableCollections$ListN" ∧ Fld Z h r "java/util/ImmutableCollections$ListN" "elements" "[Ljava/lang/Object;" (.ref q) ∧ AL Z h q kq (.object "java/lang/Object") [(.ref d), (.ref d), (.ref d), (.ref d), (.ref d), (.ref d)]
set_option maxRecDepth 65536 in
set_option maxHeartbeats 40000000 in
theorem rm_lc6 (l : Launch) (Z : State) (a0 : Array Value) (hw : ∀ d ∈ tables_1, d.before a0 Z = true) (a : Addr) (d : Addr) (w : Addr) (kw : ClassId) (mr : Addr) (h0 : Heap) (O0 : Ext Z.heap h0) (Ea : Exa Z h0 a "java/util/ArrayList") (Fe : Fld Z h0 a "java/util/ArrayList" "elementData" "[Ljava/lang/Object;" (.ref w)) (Fs : Fld Z h0 a "java/util/ArrayList" "size" "I" (.int (6 : Int32))) (Ew : Exa Z h0 w "[Ljava/lang/Object;") (Aw : AL Z h0 w kw (.object "java/lang/Object") [(.ref d), (.ref d), (.ref d), (.ref d), (.ref d), (.ref d), .null, .null, .null, .null]) (Ed : Exa Z h0 d "com/example/tranche/tranche/journal/DefaultRateChange") (hM : Mir Z "[Ljava/lang/Object;" mr) :
    Met1 l Z (⟨"java/util/ImmutableCollections", "listCopy", "(Ljava/util/Collection;)Ljava/util/List;"⟩ : MethodName) jdk_56_method_3_code 2 (some (.object "java/util/List")) ({ frames := 7, cells := 3, slots := 14, locals := 90 } : Room) #[(.ref a)] h0 (Q_lc6 Z a d w kw mr h0) := by
  refine Met1.of_body (Ls := #[.val (.ref a), .unset]) pf_14 (fun m => by first | (simp [entryFrame, mkF, argsToLocals, Value.category]; done) | rfl) ?_
  intro p e s m below meth c T0 C X0 e0
  have N0 : Fr Z.heap.size [] := Fr.nil _
  refine Go.aloadN (pc' := 1) C X0 d14_0 rfl rfl rfl ?_
  refine Go.instNo (pc' := 4) C X0 (tw hw 94 rfl) e0 Ea (NS.noI (tw hw 95 rfl) (tw hw 230 rfl) (NS.step (tw hw 95 rfl) (NS.step (tw hw 96 rfl) (NS.step (tw hw 97 rfl) (NS.rootI (tw hw 98 rfl) (tw hw 230 rfl) (by decide)) (by decide)) (by decide)) (by decide)) (by decide)) d14_1 rfl ?_
  intro T101 X101 e101
  refine Go.ifNo (pc' := 7) C X101 d14_4 ((if0 _ _).trans (teq (x := (0 : Int32)) (y := (0 : Int32)) (by decide)).2) rfl ?_
  refine Go.aloadN (pc' := 8) C X101 d14_7 rfl rfl rfl ?_
  refine Go.instNo (pc' := 11) C X101 (tw hw 99 rfl) e101 Ea (NS.noI (tw hw 95 rfl) (tw hw 208 rfl) (NS.step (tw hw 95 rfl) (NS.step (tw hw 96 rfl) (NS.step (tw hw 97 rfl) (NS.rootI (tw hw 98 rfl) (tw hw 208 rfl) (by decide)) (by decide)) (by decide)) (by decide)) (by decide)) d14_8 rfl ?_
  intro T103 X103 e103
  refine Go.ifYes (pc' := 31) C X103 d14_11 ((if0 _ _).trans (teq (x := (0 : Int32)) (y := (0 : Int32)) (by decide)).1) (by decide) (by decide) ?_
  refine Go.aloadN (pc' := 32) C X103 d14_31 rfl rfl rfl ?_
  refine Go.callF (y := (⟨"java/util/Collection", "isEmpty", "()Z"⟩ : MethodName)) (z := (⟨"java/util/ArrayList", "isEmpty", "()Z"⟩ : MethodName)) (a := a) (pc' := 37) C X103 (tw hw 100 rfl) (tw hw 101 rfl) (tw hw 102 rfl) (tw hw 103 rfl) (tw hw 104 rfl) (tw hw 105 rfl) (tw hw 106 rfl) (tw hw 107 rfl) rfl Ea (by decide) (rm_emp6 l Z a0 hw a h0 O0 Fs) (tw hw 108 rfl) (tw hw 57 rfl) e103 (argsL := []) (rest := []) (W := 0) rfl rfl pd_15 rfl (Nat.le_of_eq rfl) rfl (by decide) (by decide) (by decide) (by decide) d14_32 rfl ?_
  intro T105 v105 L105 X105 q105
  obtain ⟨rfl, rfl, e105⟩ := q105
  have N105 := Fr.app N0 (Fr.nil _)
  refine Go.ifYes (pc' := 44) C X105 d14_37 ((if0 _ _).trans (teq (x := (0 : Int32)) (y := (0 : Int32)) (by decide)).1) (by decide) (by decide) ?_
  refine Go.aloadN (pc' := 45) C X105 d14_44 rfl rfl rfl ?_
  refine Go.callF (y := (⟨"java/util/Collection", "toArray", "()[Ljava/lang/Object;"⟩ : MethodName)) (z := (⟨"java/util/ArrayList", "toArray", "()[Ljava/lang/Object;"⟩ : MethodName)) (a := a) (pc' := 50) C X105 (tw hw 167 rfl) (tw hw 168 rfl) (tw hw 169 rfl) (tw hw 170 rfl) (tw hw 171 rfl) (tw hw 172 rfl) (tw hw 173 rfl) (tw hw 107 rfl) rfl Ea (by decide) (rm_ta6 l Z a0 hw a d w kw mr h0 O0 Fe Fs Ew Aw Ed hM) (tw hw 174 rfl) (tw hw 57 rfl) e105 (argsL := []) (rest := []) (W := 0) rfl rfl pd_6 rfl (Nat.le_of_eq rfl) rfl (by decide) (by decide) (by decide) (by decide) d14_45 rfl ?_
  intro T107 v107 L107 X107 q107
  obtain ⟨v_107, kv_107, rfl, N107q, K107, B107_0, P107_0⟩ := q107
  have N107 := Fr.app N105 N107q
  have n_v_107 : Z.heap.size ≤ v_107 := Nat.le_trans O0.1 B107_0
  have z_v_107 : h0.size ≤ v_107 := Nat.le_trans (Nat.le_refl _) B107_0
  have c109 : Exa Z T107.heap d "com/example/tranche/tranche/journal/DefaultRateChange" := (Exa.keep Ed K107)
  have O110 : Ext Z.heap T107.heap := (Ext.keep O0 K107 all0)
  refine Go.callS (y := (⟨"java/util/List", "of", "([Ljava/lang/Object;)Ljava/util/List;"⟩ : MethodName)) (pc' := 53) C X107 (tw hw 197 rfl) (tw hw 198 rfl) (by decide) (rm_lof6 l Z a0 hw d v_107 kv_107 T107.heap O110 P107_0 c109) (tw hw 199 rfl) (tw hw 88 rfl) rfl (argsL := [(.ref v_107)]) (rest := []) (W := 0) rfl rfl pd_14 rfl (Nat.le_of_eq rfl) rfl (by decide) (by decide) (by decide) (by decide) d14_50 rfl ?_
  intro T108 v108 L108 X108 q108
  obtain ⟨r_108, q_108, kq_108, rfl, N108q, K108, B108_0, B108_1, P108_0, P108_1, P108_2⟩ := q108
  have N108 := Fr.app N107 N108q
  have n_r_108 : Z.heap.size ≤ r_108 := Nat.le_trans O110.1 B108_0
  have z_r_108 : h0.size ≤ r_108 := Nat.le_trans (Nat.le_trans (Nat.le_refl _) K107.1) B108_0
  have n_q_108 : Z.heap.size ≤ q_108 := Nat.le_trans O110.1 B108_1
  have z_q_108 : h0.size ≤ q_108 := Nat.le_trans (Nat.le_trans (Nat.le_refl _) K107.1) B108_1
  have K111 : Keep h0 T108.heap [] := (((Keep.refl h0 []).trans K107 all0).trans K108 all0)
  exact Go.retA C X108 rfl d14_53 rfl rfl rfl ⟨r_108, q_108, kq_108, rfl, N108, K111, z_r_108, z_q_108, P108_0, P108_1, P108_2⟩ (by decide) (by decide)
def Q_lco6 (Z : State) (a : Addr) (d : Addr) (w : Addr) (kw : ClassId) (mr : Addr) (h0 : Heap) (rv : Option Value) (h : Heap) (L : List Loc) : Prop := ∃ r : Addr, ∃ q : Addr, ∃ kq : ClassId, rv = some (.ref r) ∧ Fr Z.heap.size L ∧ Keep h0 h [] ∧ h0.size ≤ r ∧ h0.size ≤ q ∧ Exa Z h r "java/util/ImmutableCollections$ListN" ∧ Fld Z h r "java/util/ImmutableCollections$ListN" "elements" "[Ljava/lang/Object;" (.ref q) ∧ AL Z h q kq (.object "java/lang/Object") [(.ref d), (.ref d), (.ref d), (.ref d), (.ref d), (.ref d)]
set_option maxRecDepth 65536 in
set_option maxHeartbeats 40000000 in
theorem rm_lco6 (l : Launch) (Z : State) (a0 : Array Value) (hw : ∀ d ∈ tables_1, d.before a0 Z = true) (a : Addr) (d : Addr) (w : Addr) (kw : ClassId) (mr : Addr) (h0 : Heap) (O0 : Ext Z.heap h0) (Ea : Exa Z h0 a "java/util/ArrayList") (Fe : Fld Z h0 a "java/util/ArrayList" "elementData" "[Ljava/lang/Object;" (.ref w)) (Fs : Fld Z h0 a "java/util/ArrayList" "size" "I" (.int (6 : Int32))) (Ew : Exa Z h0 w "[Ljava/lang/Object;") (Aw : AL Z h0 w kw (.object "java/lang/Object") [(.ref d), (.ref d), (.ref d), (.ref d), (.ref d), (.ref d), .null, .null, .null, .null]) (Ed : Exa Z h0 d "com/example/tranche/tranche/journal/DefaultRateChange") (hM : Mir Z "[Ljava/lang/Object;" mr) :
    Met1 l Z (⟨"java/util/List", "copyOf", "(Ljava/util/Collection;)Ljava/util/List;"⟩ : MethodName) jdk_40_method_48_code 1 (some (.object "java/util/List")) ({ frames := 8, cells := 3, slots := 14, locals := 103 } : Room) #[(.ref a)] h0 (Q_lco6 Z a d w kw mr h0) := by
  refine Met1.of_body (Ls := #[.val (.ref a)]) pf_13 (fun m => by first | (simp [entryFrame, mkF, argsToLocals, Value.category]; done) | rfl) ?_
  intro p e s m below meth c T0 C X0 e0
  have N0 : Fr Z.heap.size [] := Fr.nil _
  refine Go.aloadN (pc' := 1) C X0 d13_0 rfl rfl rfl ?_
  refine Go.callS (y := (⟨"java/util/ImmutableCollections", "listCopy", "(Ljava/util/Collection;)Ljava/util/List;"⟩ : MethodName)) (pc' := 4) C X0 (tw hw 90 rfl) (tw hw 91 rfl) (by decide) (rm_lc6 l Z a0 hw a d w kw mr h0 O0 Ea Fe Fs Ew Aw Ed hM) (tw hw 93 rfl) (tw hw 92 rfl) e0 (argsL := [(.ref a)]) (rest := []) (W := 0) rfl rfl pd_17 rfl (Nat.le_of_eq rfl) rfl (by decide) (by decide) (by decide) (by decide) d13_1 rfl ?_
  intro T101 v101 L101 X101 q101
  obtain ⟨r_101, q_101, kq_101, rfl, N101q, K101, B101_0, B101_1, P101_0, P101_1, P101_2⟩ := q101
  have N101 := Fr.app N0 N101q
  have n_r_101 : Z.heap.size ≤ r_101 := Nat.le_trans O0.1 B101_0
  have z_r_101 : h0.size ≤ r_101 := Nat.le_trans (Nat.le_refl _) B101_0
  have n_q_101 : Z.heap.size ≤ q_101 := Nat.le_trans O0.1 B101_1
  have z_q_101 : h0.size ≤ q_101 := Nat.le_trans (Nat.le_refl _) B101_1
  have K102 : Keep h0 T101.heap [] := ((Keep.refl h0 []).trans K101 all0)
  exact Go.retA C X101 rfl d13_4 rfl rfl rfl ⟨r_101, q_101, kq_101, rfl, N101, K102, z_r_101, z_q_101, P101_0, P101_1, P101_2⟩ (by decide) (by decide)
def Q_jI6 (Z : State) (j : Addr) (sr : Addr) (x0 : Int32) (a : Addr) (d : Addr) (w : Addr) (kw : ClassId) (mr : Addr) (h0 : Heap) (rv : Option Value) (h : Heap) (L : List Loc) : Prop := ∃ r : Addr, ∃ q : Addr, ∃ kq : ClassId, rv = none ∧ Fr Z.heap.size L ∧ Keep h0 h [j] ∧ h0.size ≤ r ∧ h0.size ≤ q ∧ Fld Z h j "com/example/tranche/tranche/journal/Journal" "events" "Ljava/util/List;" (.ref r) ∧ Exa Z h r "java/util/ImmutableCollections$ListN" ∧ Fld Z h r "java/util/ImmutableCollections$ListN" "elements" "[Ljava/lang/Object;" (.ref q) ∧ AL Z h q kq (.object "java/lang/Object") [(.ref d), (.ref d), (.ref d), (.ref d), (.ref d), (.ref d)]
set_option maxRecDepth 65536 in
set_option maxHeartbeats 40000000 in
theorem rm_jI6 (l : Launch) (Z : State) (a0 : Array Value) (hw : ∀ d ∈ tables_1, d.before a0 Z = true) (j : Addr) (sr : Addr) (x0 : Int32) (a : Addr) (d : Addr) (w : Addr) (kw : ClassId) (mr : Addr) (h0 : Heap) (O0 : Ext Z.heap h0) (E0 : Exa Z h0 j "com/example/tranche/tranche/journal/Journal") (F1 : Fld Z h0 j "com/example/tranche/tranche/journal/Journal" "source" "Ljava/lang/String;" .null) (F2 : Fld Z h0 j "com/example/tranche/tranche/journal/Journal" "events" "Ljava/util/List;" .null) (F3 : Fld Z h0 j "com/example/tranche/tranche/journal/Journal" "incomplete" "Z" (.int (0 : Int32))) (Ea : Exa Z h0 a "java/util/ArrayList") (Fe : Fld Z h0 a "java/util/ArrayList" "elementData" "[Ljava/lang/Object;" (.ref w)) (Fs : Fld Z h0 a "java/util/ArrayList" "size" "I" (.int (6 : Int32))) (Ew : Exa Z h0 w "[Ljava/lang/Object;") (Aw : AL Z h0 w kw (.object "java/lang/Object") [(.ref d), (.ref d), (.ref d), (.ref d), (.ref d), (.ref d), .null, .null, .null, .null]) (Ed : Exa Z h0 d "com/example/tranche/tranche/journal/DefaultRateChange") (hM : Mir Z "[Ljava/lang/Object;" mr) (hn : Z.heap.size ≤ j) :
    Met1 l Z (⟨"com/example/tranche/tranche/journal/Journal", "<init>", "(Ljava/lang/String;Ljava/util/List;Z)V"⟩ : MethodName) prog_35_method_1_code 4 none ({ frames := 9, cells := 3, slots := 14, locals := 115 } : Room) #[(.ref j), (.ref sr), (.ref a), (.int x0)] h0 (Q_jI6 Z j sr x0 a d w kw mr h0) := by
  refine Met1.of_body (Ls := #[.val (.ref j), .val (.ref sr), .val (.ref a), .val (.int x0)]) pf_12 (fun m => by first | (simp [entryFrame, mkF, argsToLocals, Value.category]; done) | rfl) ?_
  intro p e s m below meth c T0 C X0 e0
  have N0 : Fr Z.heap.size [] := Fr.nil _
  refine Go.aloadN (pc' := 1) C X0 d12_0 rfl rfl rfl ?_
  refine Go.callI (y := (⟨"java/lang/Record", "<init>", "()V"⟩ : MethodName)) (a := j) (pc' := 4) C X0 rfl (tw hw 85 rfl) (tw hw 36 rfl) (by decide) (rm_rec l Z a0 hw j h0 O0 ) (tw hw 39 rfl) (tw hw 38 rfl) e0 (argsL := []) (rest := []) (W := 0) rfl rfl pd_3 rfl (Nat.le_of_eq rfl) rfl (by decide) (by decide) (by decide) (by decide) rfl d12_1 rfl ?_
  intro T101 v101 L101 X101 q101
  obtain ⟨rfl, rfl, e101⟩ := q101
  have N101 := Fr.app N0 (Fr.nil _)
  refine Go.aloadN (pc' := 5) C X101 d12_4 rfl rfl rfl ?_
  refine Go.callS (y := (⟨"java/util/List", "copyOf", "(Ljava/util/Collection;)Ljava/util/List;"⟩ : MethodName)) (pc' := 8) C X101 (tw hw 86 rfl) (tw hw 87 rfl) (by decide) (rm_lco6 l Z a0 hw a d w kw mr h0 O0 Ea Fe Fs Ew Aw Ed hM) (tw hw 89 rfl) (tw hw 88 rfl) e101 (argsL := [(.ref a)]) (rest := []) (W := 0) rfl rfl pd_17 rfl (Nat.le_of_eq rfl) rfl (by decide) (by decide) (by decide) (by decide) d12_5 rfl ?_
  intro T102 v102 L102 X102 q102
  obtain ⟨r_102, q_102, kq_102, rfl, N102q, K102, B102_0, B102_1, P102_0, P102_1, P102_2⟩ := q102
  have N102 := Fr.app N101 N102q
  have n_r_102 : Z.heap.size ≤ r_102 := Nat.le_trans O0.1 B102_0
  have z_r_102 : h0.size ≤ r_102 := Nat.le_trans (Nat.le_refl _) B102_0
  have n_q_102 : Z.heap.size ≤ q_102 := Nat.le_trans O0.1 B102_1
  have z_q_102 : h0.size ≤ q_102 := Nat.le_trans (Nat.le_refl _) B102_1
  refine Go.astoreN (Ls' := #[.val (.ref j), .val (.ref sr), .val (.ref r_102), .val (.int x0)]) (pc' := 9) C X102 d12_8 rfl rfl rfl ?_
  refine Go.aloadN (pc' := 10) C X102 d12_9 rfl rfl rfl ?_
  refine Go.aloadN (pc' := 11) C X102 d12_10 rfl rfl rfl ?_
  have c104 : Fld Z T102.heap j "com/example/tranche/tranche/journal/Journal" "source" "Ljava/lang/String;" .null := (Fld.keep F1 K102 nin0)
  have c105 : Exa Z T102.heap j "com/example/tranche/tranche/journal/Journal" := (Exa.keep E0 K102)
  refine Go.putF (pc' := 14) (host := "") (ty := (.object "java/lang/String")) C X102 (Or.inl (tw hw 115 rfl)) Via.refl rfl c104 c105 (Or.inr ⟨(tw hw 116 rfl), rfl, rfl⟩) (tw hw 80 rfl) (by decide) rfl rfl d12_11 rfl ?_
  intro T103 h103 X103 e103 W103 F103
  have N103 := Fr.snoc X103 N102 hn
  refine Go.aloadN (pc' := 15) C X103 d12_14 rfl rfl rfl ?_
  refine Go.aloadN (pc' := 16) C X103 d12_15 rfl rfl rfl ?_
  have c107 : Fld Z h103 j "com/example/tranche/tranche/journal/Journal" "events" "Ljava/util/List;" .null := (Fld.other W103 (Fld.keep F2 K102 nin0) (Or.inr (slot_ne (Or.inr (tw hw 118 rfl)) (Or.inr (tw hw 116 rfl)) (by decide) (t := (.object "java/util/List")) (t' := (.object "java/lang/String")) (by decide) (by decide))))
  have c108 : Exa Z h103 j "com/example/tranche/tranche/journal/Journal" := (Exa.wr W103 c105)
  refine Go.putF (pc' := 19) (host := "") (ty := (.object "java/util/List")) C X103 (Or.inl (tw hw 117 rfl)) Via.refl e103 c107 c108 (Or.inr ⟨(tw hw 118 rfl), rfl, rfl⟩) (tw hw 80 rfl) (by decide) rfl rfl d12_16 rfl ?_
  intro T106 h106 X106 e106 W106 F106
  have N106 := Fr.snoc X106 N103 hn
  refine Go.aloadN (pc' := 20) C X106 d12_19 rfl rfl rfl ?_
  refine Go.iloadN (pc' := 21) C X106 d12_20 rfl rfl ?_
  have c110 : Fld Z h106 j "com/example/tranche/tranche/journal/Journal" "incomplete" "Z" (.int (0 : Int32)) := (Fld.other W106 (Fld.other W103 (Fld.keep F3 K102 nin0) (Or.inr (slot_ne (Or.inr (tw hw 120 rfl)) (Or.inr (tw hw 116 rfl)) (by decide) (t := .boolean) (t' := (.object "java/lang/String")) (by decide) (by decide)))) (Or.inr (slot_ne (Or.inr (tw hw 120 rfl)) (Or.inr (tw hw 118 rfl)) (by decide) (t := .boolean) (t' := (.object "java/util/List")) (by decide) (by decide))))
  have c111 : Exa Z h106 j "com/example/tranche/tranche/journal/Journal" := (Exa.wr W106 c108)
  refine Go.putFN (pc' := 24) (ty := .boolean) (v' := .int (nar .boolean x0)) C X106 (tw hw 119 rfl) Via.refl e106 c110 c111 (Or.inr ⟨(tw hw 120 rfl), rfl, rfl⟩) (tw hw 80 rfl) (by decide) rfl (fits_nar_bool _) d12_21 rfl ?_
  intro T109 h109 X109 e109 W109 F109
  have N109 := Fr.snoc X109 N106 hn
  have K112 : Keep h0 h109 [j] := (((((Keep.refl h0 [j]).trans K102 all0).wr W103 (Or.inl (by simp))).wr W106 (Or.inl (by simp))).wr W109 (Or.inl (by simp)))
  have c113 : Fld Z h109 j "com/example/tranche/tranche/journal/Journal" "events" "Ljava/util/List;" (.ref r_102) := (Fld.other W109 F106 (Or.inr (slot_ne (Or.inr (tw hw 118 rfl)) (Or.inr (tw hw 120 rfl)) (by decide) (t := (.object "java/util/List")) (t' := .boolean) (by decide) (by decide))))
  have c114 : Exa Z h109 r_102 "java/util/ImmutableCollections$ListN" := (Exa.wr W109 (Exa.wr W106 (Exa.wr W103 P102_0)))
  have ne115 : r_102 ≠ j := (Nat.ne_of_gt (Nat.lt_of_lt_of_le E0.lt (Nat.le_trans (Nat.le_refl _) B102_0)))
  have c116 : Fld Z h109 r_102 "java/util/ImmutableCollections$ListN" "elements" "[Ljava/lang/Object;" (.ref q_102) := (Fld.other W109 (Fld.other W106 (Fld.other W103 P102_1 (Or.inl ne115)) (Or.inl ne115)) (Or.inl ne115))
  have ne117 : q_102 ≠ j := (Nat.ne_of_gt (Nat.lt_of_lt_of_le E0.lt (Nat.le_trans (Nat.le_refl _) B102_1)))
  have c118 : AL Z h109 q_102 kq_102 (.object "java/lang/Object") [(.ref d), (.ref d), (.ref d), (.ref d), (.ref d), (.ref d)] := (AL.other W109 (AL.other W106 (AL.other W103 P102_2 ne117) ne117) ne117)
  exact Go.retV C X109 rfl d12_24 (by rw [e109]; exact ⟨r_102, q_102, kq_102, rfl, N109, K112, z_r_102, z_q_102, c113, c114, c116, c118⟩) (by decide) (by decide)
def Q_sz6 (Z : State) (r : Addr) (q : Addr) (kq : ClassId) (d : Addr) (h0 : Heap) (rv : Option Value) (h : Heap) (L : List Loc) : Prop := rv = some (.int (6 : Int32)) ∧ L = [] ∧ h = h0
set_option maxRecDepth 65536 in
set_option maxHeartbeats 40000000 in
theorem rm_sz6 (l : Launch) (Z : State) (a0 : Array Value) (hw : ∀ d ∈ tables_1, d.before a0 Z = true) (r : Addr) (q : Addr) (kq : ClassId) (d : Addr) (h0 : Heap) (O0 : Ext Z.heap h0) (Er : Exa Z h0 r "java/util/ImmutableCollections$ListN") (Fr_ : Fld Z h0 r "java/util/ImmutableCollections$ListN" "elements" "[Ljava/lang/Object;" (.ref q)) (Aq : AL Z h0 q kq (.object "java/lang/Object") [(.ref d), (.ref d), (.ref d), (.ref d), (.ref d), (.ref d)]) :
    Met1 l Z (⟨"java/util/ImmutableCollections$ListN", "size", "()I"⟩ : MethodName) jdk_45_method_3_code 1 (some .int) ({ frames := 0, cells := 0, slots := 0, locals := 0 } : Room) #[(.ref r)] h0 (Q_sz6 Z r q kq d h0) := by
  refine Met1.of_body (Ls := #[.val (.ref r)]) pf_23 (fun m => by first | (simp [entryFrame, mkF, argsToLocals, Value.category]; done) | rfl) ?_
  intro p e s m below meth c T0 C X0 e0
  have N0 : Fr Z.heap.size [] := Fr.nil _
  refine Go.aloadN (pc' := 1) C X0 d23_0 rfl rfl rfl ?_
  refine Go.getF (pc' := 4) (host := "") C X0 (Or.inl (tw hw 165 rfl)) Via.refl e0 Fr_ d23_1 rfl ?_
  intro T101 X101 e101
  refine Go.alen (z := (6 : Int32)) (pc' := 5) C X101 e101 Aq rfl d23_4 rfl ?_
  exact Go.retI C X101 rfl d23_5 (by rw [e101]; exact ⟨rfl, rfl, rfl⟩) (by decide) (by decide)
def Q_nl6 (Z : State) (j : Addr) (r : Addr) (q : Addr) (kq : ClassId) (d : Addr) (h0 : Heap) (rv : Option Value) (h : Heap) (L : List Loc) : Prop := rv = some (.int (7 : Int32)) ∧ L = [] ∧ h = h0
set_option maxRecDepth 65536 in
set_option maxHeartbeats 40000000 in
theorem rm_nl6 (l : Launch) (Z : State) (a0 : Array Value) (hw : ∀ d ∈ tables_1, d.before a0 Z = true) (j : Addr) (r : Addr) (q : Addr) (kq : ClassId) (d : Addr) (h0 : Heap) (O0 : Ext Z.heap h0) (F2 : Fld Z h0 j "com/example/tranche/tranche/journal/Journal" "events" "Ljava/util/List;" (.ref r)) (Er : Exa Z h0 r "java/util/ImmutableCollections$ListN") (Fr_ : Fld Z h0 r "java/util/ImmutableCollections$ListN" "elements" "[Ljava/lang/Object;" (.ref q)) (Aq : AL Z h0 q kq (.object "java/lang/Object") [(.ref d), (.ref d), (.ref d), (.ref d), (.ref d), (.ref d)]) :
    Met1 l Z (⟨"com/example/tranche/tranche/journal/Journal", "nextLine", "()I"⟩ : MethodName) prog_35_method_2_code 1 (some .int) ({ frames := 1, cells := 0, slots := 0, locals := 12 } : Room) #[(.ref j)] h0 (Q_nl6 Z j r q kq d h0) := by
  refine Met1.of_body (Ls := #[.val (.ref j)]) pf_22 (fun m => by first | (simp [entryFrame, mkF, argsToLocals, Value.category]; done) | rfl) ?_
  intro p e s m below meth c T0 C X0 e0
  have N0 : Fr Z.heap.size [] := Fr.nil _
  refine Go.aloadN (pc' := 1) C X0 d22_0 rfl rfl rfl ?_
  refine Go.getF (pc' := 4) (host := "") C X0 (Or.inl (tw hw 117 rfl)) Via.refl e0 F2 d22_1 rfl ?_
  intro T101 X101 e101
  refine Go.callF (y := (⟨"java/util/List", "size", "()I"⟩ : MethodName)) (z := (⟨"java/util/ImmutableCollections$ListN", "size", "()I"⟩ : MethodName)) (a := r) (pc' := 9) C X101 (tw hw 155 rfl) (tw hw 156 rfl) (tw hw 157 rfl) (tw hw 158 rfl) (tw hw 159 rfl) (tw hw 160 rfl) (tw hw 161 rfl) (tw hw 162 rfl) rfl Er (by decide) (rm_sz6 l Z a0 hw r q kq d h0 O0 Er Fr_ Aq) (tw hw 164 rfl) (tw hw 163 rfl) e101 (argsL := []) (rest := []) (W := 0) rfl rfl pd_18 rfl (Nat.le_of_eq rfl) rfl (by decide) (by decide) (by decide) (by decide) d22_4 rfl ?_
  intro T102 v102 L102 X102 q102
  obtain ⟨rfl, rfl, e102⟩ := q102
  have N102 := Fr.app N0 (Fr.nil _)
  refine Go.iconst (z := (1 : Int32)) (pc' := 10) C X102 d22_9 rfl rfl ?_
  refine Go.iadd (pc' := 11) C X102 d22_10 rfl ?_
  rw [show ((6 : Int32) + (1 : Int32)) = (7 : Int32) from by decide]
  exact Go.retI C X102 rfl d22_11 (by rw [e102]; exact ⟨rfl, (by simp), rfl⟩) (by decide) (by decide)
def Q_lc7 (Z : State) (a : Addr) (d : Addr) (w : Addr) (kw : ClassId) (mr : Addr) (h0 : Heap) (rv : Option Value) (h : Heap) (L : List Loc) : Prop := ∃ r : Addr, ∃ q : Addr, ∃ kq : ClassId, rv = some (.ref r) ∧ Fr Z.heap.size L ∧ Keep h0 h [] ∧ h0.size ≤ r ∧ h0.size ≤ q ∧ Exa Z h r "java/util/ImmutableCollections$ListN" ∧ Fld Z h r "java/util/ImmutableCollections$ListN" "elements" "[Ljava/lang/Object;" (.ref q) ∧ AL Z h q kq (.object "java/lang/Object") [(.ref d), (.ref d), (.ref d), (.ref d), (.ref d), (.ref d), (.ref d)]
set_option maxRecDepth 65536 in
set_option maxHeartbeats 40000000 in
theorem rm_lc7 (l : Launch) (Z : State) (a0 : Array Value) (hw : ∀ d ∈ tables_1, d.before a0 Z = true) (a : Addr) (d : Addr) (w : Addr) (kw : ClassId) (mr : Addr) (h0 : Heap) (O0 : Ext Z.heap h0) (Ea : Exa Z h0 a "java/util/ArrayList") (Fe : Fld Z h0 a "java/util/ArrayList" "elementData" "[Ljava/lang/Object;" (.ref w)) (Fs : Fld Z h0 a "java/util/ArrayList" "size" "I" (.int (7 : Int32))) (Ew : Exa Z h0 w "[Ljava/lang/Object;") (Aw : AL Z h0 w kw (.object "java/lang/Object") [(.ref d), (.ref d), (.ref d), (.ref d), (.ref d), (.ref d), (.ref d), .null, .null, .null]) (Ed : Exa Z h0 d "com/example/tranche/tranche/journal/DefaultRateChange") (hM : Mir Z "[Ljava/lang/Object;" mr) :
    Met1 l Z (⟨"java/util/ImmutableCollections", "listCopy", "(Ljava/util/Collection;)Ljava/util/List;"⟩ : MethodName) jdk_56_method_3_code 2 (some (.object "java/util/List")) ({ frames := 7, cells := 3, slots := 16, locals := 90 } : Room) #[(.ref a)] h0 (Q_lc7 Z a d w kw mr h0) := by
  refine Met1.of_body (Ls := #[.val (.ref a), .unset]) pf_14 (fun m => by first | (simp [entryFrame, mkF, argsToLocals, Value.category]; done) | rfl) ?_
  intro p e s m below meth c T0 C X0 e0
  have N0 : Fr Z.heap.size [] := Fr.nil _
  refine Go.aloadN (pc' := 1) C X0 d14_0 rfl rfl rfl ?_
  refine Go.instNo (pc' := 4) C X0 (tw hw 94 rfl) e0 Ea (NS.noI (tw hw 95 rfl) (tw hw 230 rfl) (NS.step (tw hw 95 rfl) (NS.step (tw hw 96 rfl) (NS.step (tw hw 97 rfl) (NS.rootI (tw hw 98 rfl) (tw hw 230 rfl) (by decide)) (by decide)) (by decide)) (by decide)) (by decide)) d14_1 rfl ?_
  intro T101 X101 e101
  refine Go.ifNo (pc' := 7) C X101 d14_4 ((if0 _ _).trans (teq (x := (0 : Int32)) (y := (0 : Int32)) (by decide)).2) rfl ?_
  refine Go.aloadN (pc' := 8) C X101 d14_7 rfl rfl rfl ?_
  refine Go.instNo (pc' := 11) C X101 (tw hw 99 rfl) e101 Ea (NS.noI (tw hw 95 rfl) (tw hw 208 rfl) (NS.step (tw hw 95 rfl) (NS.step (tw hw 96 rfl) (NS.step (tw hw 97 rfl) (NS.rootI (tw hw 98 rfl) (tw hw 208 rfl) (by decide)) (by decide)) (by decide)) (by decide)) (by decide)) d14_8 rfl ?_
  intro T103 X103 e103
  refine Go.ifYes (pc' := 31) C X103 d14_11 ((if0 _ _).trans (teq (x := (0 : Int32)) (y := (0 : Int32)) (by decide)).1) (by decide) (by decide) ?_
  refine Go.aloadN (pc' := 32) C X103 d14_31 rfl rfl rfl ?_
  refine Go.callF (y := (⟨"java/util/Collection", "isEmpty", "()Z"⟩ : MethodName)) (z := (⟨"java/util/ArrayList", "isEmpty", "()Z"⟩ : MethodName)) (a := a) (pc' := 37) C X103 (tw hw 100 rfl) (tw hw 101 rfl) (tw hw 102 rfl) (tw hw 103 rfl) (tw hw 104 rfl) (tw hw 105 rfl) (tw hw 106 rfl) (tw hw 107 rfl) rfl Ea (by decide) (rm_emp7 l Z a0 hw a h0 O0 Fs) (tw hw 108 rfl) (tw hw 57 rfl) e103 (argsL := []) (rest := []) (W := 0) rfl rfl pd_15 rfl (Nat.le_of_eq rfl) rfl (by decide) (by decide) (by decide) (by decide) d14_32 rfl ?_
  intro T105 v105 L105 X105 q105
  obtain ⟨rfl, rfl, e105⟩ := q105
  have N105 := Fr.app N0 (Fr.nil _)
  refine Go.ifYes (pc' := 44) C X105 d14_37 ((if0 _ _).trans (teq (x := (0 : Int32)) (y := (0 : Int32)) (by decide)).1) (by decide) (by decide) ?_
  refine Go.aloadN (pc' := 45) C X105 d14_44 rfl rfl rfl ?_
  refine Go.callF (y := (⟨"java/util/Collection", "toArray", "()[Ljava/lang/Object;"⟩ : MethodName)) (z := (⟨"java/util/ArrayList", "toArray", "()[Ljava/lang/Object;"⟩ : MethodName)) (a := a) (pc' := 50) C X105 (tw hw 167 rfl) (tw hw 168 rfl) (tw hw 169 rfl) (tw hw 170 rfl) (tw hw 171 rfl) (tw hw 172 rfl) (tw hw 173 rfl) (tw hw 107 rfl) rfl Ea (by decide) (rm_ta7 l Z a0 hw a d w kw mr h0 O0 Fe Fs Ew Aw Ed hM) (tw hw 174 rfl) (tw hw 57 rfl) e105 (argsL := []) (rest := []) (W := 0) rfl rfl pd_6 rfl (Nat.le_of_eq rfl) rfl (by decide) (by decide) (by decide) (by decide) d14_45 rfl ?_
  intro T107 v107 L107 X107 q107
  obtain ⟨v_107, kv_107, rfl, N107q, K107, B107_0, P107_0⟩ := q107
  have N107 := Fr.app N105 N107q
  have n_v_107 : Z.heap.size ≤ v_107 := Nat.le_trans O0.1 B107_0
  have z_v_107 : h0.size ≤ v_107 := Nat.le_trans (Nat.le_refl _) B107_0
  have c109 : Exa Z T107.heap d "com/example/tranche/tranche/journal/DefaultRateChange" := (Exa.keep Ed K107)
  have O110 : Ext Z.heap T107.heap := (Ext.keep O0 K107 all0)
  refine Go.callS (y := (⟨"java/util/List", "of", "([Ljava/lang/Object;)Ljava/util/List;"⟩ : MethodName)) (pc' := 53) C X107 (tw hw 197 rfl) (tw hw 198 rfl) (by decide) (rm_lof7 l Z a0 hw d v_107 kv_107 T107.heap O110 P107_0 c109) (tw hw 199 rfl) (tw hw 88 rfl) rfl (argsL := [(.ref v_107)]) (rest := []) (W := 0) rfl rfl pd_14 rfl (Nat.le_of_eq rfl) rfl (by decide) (by decide) (by decide) (by decide) d14_50 rfl ?_
  intro T108 v108 L108 X108 q108
  obtain ⟨r_108, q_108, kq_108, rfl, N108q, K108, B108_0, B108_1, P108_0, P108_1, P108_2⟩ := q108
  have N108 := Fr.app N107 N108q
  have n_r_108 : Z.heap.size ≤ r_108 := Nat.le_trans O110.1 B108_0
  have z_r_108 : h0.size ≤ r_108 := Nat.le_trans (Nat.le_trans (Nat.le_refl _) K107.1) B108_0
  have n_q_108 : Z.heap.size ≤ q_108 := Nat.le_trans O110.1 B108_1
  have z_q_108 : h0.size ≤ q_108 := Nat.le_trans (Nat.le_trans (Nat.le_refl _) K107.1) B108_1
  have K111 : Keep h0 T108.heap [] := (((Keep.refl h0 []).trans K107 all0).trans K108 all0)
  exact Go.retA C X108 rfl d14_53 rfl rfl rfl ⟨r_108, q_108, kq_108, rfl, N108, K111, z_r_108, z_q_108, P108_0, P108_1, P108_2⟩ (by decide) (by decide)
def Q_lco7 (Z : State) (a : Addr) (d : Addr) (w : Addr) (kw : ClassId) (mr : Addr) (h0 : Heap) (rv : Option Value) (h : Heap) (L : List Loc) : Prop := ∃ r : Addr, ∃ q : Addr, ∃ kq : ClassId, rv = some (.ref r) ∧ Fr Z.heap.size L ∧ Keep h0 h [] ∧ h0.size ≤ r ∧ h0.size ≤ q ∧ Exa Z h r "java/util/ImmutableCollections$ListN" ∧ Fld Z h r "java/util/ImmutableCollections$ListN" "elements" "[Ljava/lang/Object;" (.ref q) ∧ AL Z h q kq (.object "java/lang/Object") [(.ref d), (.ref d), (.ref d), (.ref d), (.ref d), (.ref d), (.ref d)]
set_option maxRecDepth 65536 in
set_option maxHeartbeats 40000000 in
theorem rm_lco7 (l : Launch) (Z : State) (a0 : Array Value) (hw : ∀ d ∈ tables_1, d.before a0 Z = true) (a : Addr) (d : Addr) (w : Addr) (kw : ClassId) (mr : Addr) (h0 : Heap) (O0 : Ext Z.heap h0) (Ea : Exa Z h0 a "java/util/ArrayList") (Fe : Fld Z h0 a "java/util/ArrayList" "elementData" "[Ljava/lang/Object;" (.ref w)) (Fs : Fld Z h0 a "java/util/ArrayList" "size" "I" (.int (7 : Int32))) (Ew : Exa Z h0 w "[Ljava/lang/Object;") (Aw : AL Z h0 w kw (.object "java/lang/Object") [(.ref d), (.ref d), (.ref d), (.ref d), (.ref d), (.ref d), (.ref d), .null, .null, .null]) (Ed : Exa Z h0 d "com/example/tranche/tranche/journal/DefaultRateChange") (hM : Mir Z "[Ljava/lang/Object;" mr) :
    Met1 l Z (⟨"java/util/List", "copyOf", "(Ljava/util/Collection;)Ljava/util/List;"⟩ : MethodName) jdk_40_method_48_code 1 (some (.object "java/util/List")) ({ frames := 8, cells := 3, slots := 16, locals := 103 } : Room) #[(.ref a)] h0 (Q_lco7 Z a d w kw mr h0) := by
  refine Met1.of_body (Ls := #[.val (.ref a)]) pf_13 (fun m => by first | (simp [entryFrame, mkF, argsToLocals, Value.category]; done) | rfl) ?_
  intro p e s m below meth c T0 C X0 e0
  have N0 : Fr Z.heap.size [] := Fr.nil _
  refine Go.aloadN (pc' := 1) C X0 d13_0 rfl rfl rfl ?_
  refine Go.callS (y := (⟨"java/util/ImmutableCollections", "listCopy", "(Ljava/util/Collection;)Ljava/util/List;"⟩ : MethodName)) (pc' := 4) C X0 (tw hw 90 rfl) (tw hw 91 rfl) (by decide) (rm_lc7 l Z a0 hw a d w kw mr h0 O0 Ea Fe Fs Ew Aw Ed hM) (tw hw 93 rfl) (tw hw 92 rfl) e0 (argsL := [(.ref a)]) (rest := []) (W := 0) rfl rfl pd_17 rfl (Nat.le_of_eq rfl) rfl (by decide) (by decide) (by decide) (by decide) d13_1 rfl ?_
  intro T101 v101 L101 X101 q101
  obtain ⟨r_101, q_101, kq_101, rfl, N101q, K101, B101_0, B101_1, P101_0, P101_1, P101_2⟩ := q101
  have N101 := Fr.app N0 N101q
  have n_r_101 : Z.heap.size ≤ r_101 := Nat.le_trans O0.1 B101_0
  have z_r_101 : h0.size ≤ r_101 := Nat.le_trans (Nat.le_refl _) B101_0
  have n_q_101 : Z.heap.size ≤ q_101 := Nat.le_trans O0.1 B101_1
  have z_q_101 : h0.size ≤ q_101 := Nat.le_trans (Nat.le_refl _) B101_1
  have K102 : Keep h0 T101.heap [] := ((Keep.refl h0 []).trans K101 all0)
  exact Go.retA C X101 rfl d13_4 rfl rfl rfl ⟨r_101, q_101, kq_101, rfl, N101, K102, z_r_101, z_q_101, P101_0, P101_1, P101_2⟩ (by decide) (by decide)
def Q_jI7 (Z : State) (j : Addr) (sr : Addr) (x0 : Int32) (a : Addr) (d : Addr) (w : Addr) (kw : ClassId) (mr : Addr) (h0 : Heap) (rv : Option Value) (h : Heap) (L : List Loc) : Prop := ∃ r : Addr, ∃ q : Addr, ∃ kq : ClassId, rv = none ∧ Fr Z.heap.size L ∧ Keep h0 h [j] ∧ h0.size ≤ r ∧ h0.size ≤ q ∧ Fld Z h j "com/example/tranche/tranche/journal/Journal" "events" "Ljava/util/List;" (.ref r) ∧ Exa Z h r "java/util/ImmutableCollections$ListN" ∧ Fld Z h r "java/util/ImmutableCollections$ListN" "elements" "[Ljava/lang/Object;" (.ref q) ∧ AL Z h q kq (.object "java/lang/Object") [(.ref d), (.ref d), (.ref d), (.ref d), (.ref d), (.ref d), (.ref d)]
set_option maxRecDepth 65536 in
set_option maxHeartbeats 40000000 in
theorem rm_jI7 (l : Launch) (Z : State) (a0 : Array Value) (hw : ∀ d ∈ tables_1, d.before a0 Z = true) (j : Addr) (sr : Addr) (x0 : Int32) (a : Addr) (d : Addr) (w : Addr) (kw : ClassId) (mr : Addr) (h0 : Heap) (O0 : Ext Z.heap h0) (E0 : Exa Z h0 j "com/example/tranche/tranche/journal/Journal") (F1 : Fld Z h0 j "com/example/tranche/tranche/journal/Journal" "source" "Ljava/lang/String;" .null) (F2 : Fld Z h0 j "com/example/tranche/tranche/journal/Journal" "events" "Ljava/util/List;" .null) (F3 : Fld Z h0 j "com/example/tranche/tranche/journal/Journal" "incomplete" "Z" (.int (0 : Int32))) (Ea : Exa Z h0 a "java/util/ArrayList") (Fe : Fld Z h0 a "java/util/ArrayList" "elementData" "[Ljava/lang/Object;" (.ref w)) (Fs : Fld Z h0 a "java/util/ArrayList" "size" "I" (.int (7 : Int32))) (Ew : Exa Z h0 w "[Ljava/lang/Object;") (Aw : AL Z h0 w kw (.object "java/lang/Object") [(.ref d), (.ref d), (.ref d), (.ref d), (.ref d), (.ref d), (.ref d), .null, .null, .null]) (Ed : Exa Z h0 d "com/example/tranche/tranche/journal/DefaultRateChange") (hM : Mir Z "[Ljava/lang/Object;" mr) (hn : Z.heap.size ≤ j) :
    Met1 l Z (⟨"com/example/tranche/tranche/journal/Journal", "<init>", "(Ljava/lang/String;Ljava/util/List;Z)V"⟩ : MethodName) prog_35_method_1_code 4 none ({ frames := 9, cells := 3, slots := 16, locals := 115 } : Room) #[(.ref j), (.ref sr), (.ref a), (.int x0)] h0 (Q_jI7 Z j sr x0 a d w kw mr h0) := by
  refine Met1.of_body (Ls := #[.val (.ref j), .val (.ref sr), .val (.ref a), .val (.int x0)]) pf_12 (fun m => by first | (simp [entryFrame, mkF, argsToLocals, Value.category]; done) | rfl) ?_
  intro p e s m below meth c T0 C X0 e0
  have N0 : Fr Z.heap.size [] := Fr.nil _
  refine Go.aloadN (pc' := 1) C X0 d12_0 rfl rfl rfl ?_
  refine Go.callI (y := (⟨"java/lang/Record", "<init>", "()V"⟩ : MethodName)) (a := j) (pc' := 4) C X0 rfl (tw hw 85 rfl) (tw hw 36 rfl) (by decide) (rm_rec l Z a0 hw j h0 O0 ) (tw hw 39 rfl) (tw hw 38 rfl) e0 (argsL := []) (rest := []) (W := 0) rfl rfl pd_3 rfl (Nat.le_of_eq rfl) rfl (by decide) (by decide) (by decide) (by decide) rfl d12_1 rfl ?_
  intro T101 v101 L101 X101 q101
  obtain ⟨rfl, rfl, e101⟩ := q101
  have N101 := Fr.app N0 (Fr.nil _)
  refine Go.aloadN (pc' := 5) C X101 d12_4 rfl rfl rfl ?_
  refine Go.callS (y := (⟨"java/util/List", "copyOf", "(Ljava/util/Collection;)Ljava/util/List;"⟩ : MethodName)) (pc' := 8) C X101 (tw hw 86 rfl) (tw hw 87 rfl) (by decide) (rm_lco7 l Z a0 hw a d w kw mr h0 O0 Ea Fe Fs Ew Aw Ed hM) (tw hw 89 rfl) (tw hw 88 rfl) e101 (argsL := [(.ref a)]) (rest := []) (W := 0) rfl rfl pd_17 rfl (Nat.le_of_eq rfl) rfl (by decide) (by decide) (by decide) (by decide) d12_5 rfl ?_
  intro T102 v102 L102 X102 q102
  obtain ⟨r_102, q_102, kq_102, rfl, N102q, K102, B102_0, B102_1, P102_0, P102_1, P102_2⟩ := q102
  have N102 := Fr.app N101 N102q
  have n_r_102 : Z.heap.size ≤ r_102 := Nat.le_trans O0.1 B102_0
  have z_r_102 : h0.size ≤ r_102 := Nat.le_trans (Nat.le_refl _) B102_0
  have n_q_102 : Z.heap.size ≤ q_102 := Nat.le_trans O0.1 B102_1
  have z_q_102 : h0.size ≤ q_102 := Nat.le_trans (Nat.le_refl _) B102_1
  refine Go.astoreN (Ls' := #[.val (.ref j), .val (.ref sr), .val (.ref r_102), .val (.int x0)]) (pc' := 9) C X102 d12_8 rfl rfl rfl ?_
  refine Go.aloadN (pc' := 10) C X102 d12_9 rfl rfl rfl ?_
  refine Go.aloadN (pc' := 11) C X102 d12_10 rfl rfl rfl ?_
  have c104 : Fld Z T102.heap j "com/example/tranche/tranche/journal/Journal" "source" "Ljava/lang/String;" .null := (Fld.keep F1 K102 nin0)
  have c105 : Exa Z T102.heap j "com/example/tranche/tranche/journal/Journal" := (Exa.keep E0 K102)
  refine Go.putF (pc' := 14) (host := "") (ty := (.object "java/lang/String")) C X102 (Or.inl (tw hw 115 rfl)) Via.refl rfl c104 c105 (Or.inr ⟨(tw hw 116 rfl), rfl, rfl⟩) (tw hw 80 rfl) (by decide) rfl rfl d12_11 rfl ?_
  intro T103 h103 X103 e103 W103 F103
  have N103 := Fr.snoc X103 N102 hn
  refine Go.aloadN (pc' := 15) C X103 d12_14 rfl rfl rfl ?_
  refine Go.aloadN (pc' := 16) C X103 d12_15 rfl rfl rfl ?_
  have c107 : Fld Z h103 j "com/example/tranche/tranche/journal/Journal" "events" "Ljava/util/List;" .null := (Fld.other W103 (Fld.keep F2 K102 nin0) (Or.inr (slot_ne (Or.inr (tw hw 118 rfl)) (Or.inr (tw hw 116 rfl)) (by decide) (t := (.object "java/util/List")) (t' := (.object "java/lang/String")) (by decide) (by decide))))
  have c108 : Exa Z h103 j "com/example/tranche/tranche/journal/Journal" := (Exa.wr W103 c105)
  refine Go.putF (pc' := 19) (host := "") (ty := (.object "java/util/List")) C X103 (Or.inl (tw hw 117 rfl)) Via.refl e103 c107 c108 (Or.inr ⟨(tw hw 118 rfl), rfl, rfl⟩) (tw hw 80 rfl) (by decide) rfl rfl d12_16 rfl ?_
  intro T106 h106 X106 e106 W106 F106
  have N106 := Fr.snoc X106 N103 hn
  refine Go.aloadN (pc' := 20) C X106 d12_19 rfl rfl rfl ?_
  refine Go.iloadN (pc' := 21) C X106 d12_20 rfl rfl ?_
  have c110 : Fld Z h106 j "com/example/tranche/tranche/journal/Journal" "incomplete" "Z" (.int (0 : Int32)) := (Fld.other W106 (Fld.other W103 (Fld.keep F3 K102 nin0) (Or.inr (slot_ne (Or.inr (tw hw 120 rfl)) (Or.inr (tw hw 116 rfl)) (by decide) (t := .boolean) (t' := (.object "java/lang/String")) (by decide) (by decide)))) (Or.inr (slot_ne (Or.inr (tw hw 120 rfl)) (Or.inr (tw hw 118 rfl)) (by decide) (t := .boolean) (t' := (.object "java/util/List")) (by decide) (by decide))))
  have c111 : Exa Z h106 j "com/example/tranche/tranche/journal/Journal" := (Exa.wr W106 c108)
  refine Go.putFN (pc' := 24) (ty := .boolean) (v' := .int (nar .boolean x0)) C X106 (tw hw 119 rfl) Via.refl e106 c110 c111 (Or.inr ⟨(tw hw 120 rfl), rfl, rfl⟩) (tw hw 80 rfl) (by decide) rfl (fits_nar_bool _) d12_21 rfl ?_
  intro T109 h109 X109 e109 W109 F109
  have N109 := Fr.snoc X109 N106 hn
  have K112 : Keep h0 h109 [j] := (((((Keep.refl h0 [j]).trans K102 all0).wr W103 (Or.inl (by simp))).wr W106 (Or.inl (by simp))).wr W109 (Or.inl (by simp)))
  have c113 : Fld Z h109 j "com/example/tranche/tranche/journal/Journal" "events" "Ljava/util/List;" (.ref r_102) := (Fld.other W109 F106 (Or.inr (slot_ne (Or.inr (tw hw 118 rfl)) (Or.inr (tw hw 120 rfl)) (by decide) (t := (.object "java/util/List")) (t' := .boolean) (by decide) (by decide))))
  have c114 : Exa Z h109 r_102 "java/util/ImmutableCollections$ListN" := (Exa.wr W109 (Exa.wr W106 (Exa.wr W103 P102_0)))
  have ne115 : r_102 ≠ j := (Nat.ne_of_gt (Nat.lt_of_lt_of_le E0.lt (Nat.le_trans (Nat.le_refl _) B102_0)))
  have c116 : Fld Z h109 r_102 "java/util/ImmutableCollections$ListN" "elements" "[Ljava/lang/Object;" (.ref q_102) := (Fld.other W109 (Fld.other W106 (Fld.other W103 P102_1 (Or.inl ne115)) (Or.inl ne115)) (Or.inl ne115))
  have ne117 : q_102 ≠ j := (Nat.ne_of_gt (Nat.lt_of_lt_of_le E0.lt (Nat.le_trans (Nat.le_refl _) B102_1)))
  have c118 : AL Z h109 q_102 kq_102 (.object "java/lang/Object") [(.ref d), (.ref d), (.ref d), (.ref d), (.ref d), (.ref d), (.ref d)] := (AL.other W109 (AL.other W106 (AL.other W103 P102_2 ne117) ne117) ne117)
  exact Go.retV C X109 rfl d12_24 (by rw [e109]; exact ⟨r_102, q_102, kq_102, rfl, N109, K112, z_r_102, z_q_102, c113, c114, c116, c118⟩) (by decide) (by decide)
def Q_sz7 (Z : State) (r : Addr) (q : Addr) (kq : ClassId) (d : Addr) (h0 : Heap) (rv : Option Value) (h : Heap) (L : List Loc) : Prop := rv = some (.int (7 : Int32)) ∧ L = [] ∧ h = h0
set_option maxRecDepth 65536 in
set_option maxHeartbeats 40000000 in
theorem rm_sz7 (l : Launch) (Z : State) (a0 : Array Value) (hw : ∀ d ∈ tables_1, d.before a0 Z = true) (r : Addr) (q : Addr) (kq : ClassId) (d : Addr) (h0 : Heap) (O0 : Ext Z.heap h0) (Er : Exa Z h0 r "java/util/ImmutableCollections$ListN") (Fr_ : Fld Z h0 r "java/util/ImmutableCollections$ListN" "elements" "[Ljava/lang/Object;" (.ref q)) (Aq : AL Z h0 q kq (.object "java/lang/Object") [(.ref d), (.ref d), (.ref d), (.ref d), (.ref d), (.ref d), (.ref d)]) :
    Met1 l Z (⟨"java/util/ImmutableCollections$ListN", "size", "()I"⟩ : MethodName) jdk_45_method_3_code 1 (some .int) ({ frames := 0, cells := 0, slots := 0, locals := 0 } : Room) #[(.ref r)] h0 (Q_sz7 Z r q kq d h0) := by
  refine Met1.of_body (Ls := #[.val (.ref r)]) pf_23 (fun m => by first | (simp [entryFrame, mkF, argsToLocals, Value.category]; done) | rfl) ?_
  intro p e s m below meth c T0 C X0 e0
  have N0 : Fr Z.heap.size [] := Fr.nil _
  refine Go.aloadN (pc' := 1) C X0 d23_0 rfl rfl rfl ?_
  refine Go.getF (pc' := 4) (host := "") C X0 (Or.inl (tw hw 165 rfl)) Via.refl e0 Fr_ d23_1 rfl ?_
  intro T101 X101 e101
  refine Go.alen (z := (7 : Int32)) (pc' := 5) C X101 e101 Aq rfl d23_4 rfl ?_
  exact Go.retI C X101 rfl d23_5 (by rw [e101]; exact ⟨rfl, rfl, rfl⟩) (by decide) (by decide)
def Q_nl7 (Z : State) (j : Addr) (r : Addr) (q : Addr) (kq : ClassId) (d : Addr) (h0 : Heap) (rv : Option Value) (h : Heap) (L : List Loc) : Prop := rv = some (.int (8 : Int32)) ∧ L = [] ∧ h = h0
set_option maxRecDepth 65536 in
set_option maxHeartbeats 40000000 in
theorem rm_nl7 (l : Launch) (Z : State) (a0 : Array Value) (hw : ∀ d ∈ tables_1, d.before a0 Z = true) (j : Addr) (r : Addr) (q : Addr) (kq : ClassId) (d : Addr) (h0 : Heap) (O0 : Ext Z.heap h0) (F2 : Fld Z h0 j "com/example/tranche/tranche/journal/Journal" "events" "Ljava/util/List;" (.ref r)) (Er : Exa Z h0 r "java/util/ImmutableCollections$ListN") (Fr_ : Fld Z h0 r "java/util/ImmutableCollections$ListN" "elements" "[Ljava/lang/Object;" (.ref q)) (Aq : AL Z h0 q kq (.object "java/lang/Object") [(.ref d), (.ref d), (.ref d), (.ref d), (.ref d), (.ref d), (.ref d)]) :
    Met1 l Z (⟨"com/example/tranche/tranche/journal/Journal", "nextLine", "()I"⟩ : MethodName) prog_35_method_2_code 1 (some .int) ({ frames := 1, cells := 0, slots := 0, locals := 12 } : Room) #[(.ref j)] h0 (Q_nl7 Z j r q kq d h0) := by
  refine Met1.of_body (Ls := #[.val (.ref j)]) pf_22 (fun m => by first | (simp [entryFrame, mkF, argsToLocals, Value.category]; done) | rfl) ?_
  intro p e s m below meth c T0 C X0 e0
  have N0 : Fr Z.heap.size [] := Fr.nil _
  refine Go.aloadN (pc' := 1) C X0 d22_0 rfl rfl rfl ?_
  refine Go.getF (pc' := 4) (host := "") C X0 (Or.inl (tw hw 117 rfl)) Via.refl e0 F2 d22_1 rfl ?_
  intro T101 X101 e101
  refine Go.callF (y := (⟨"java/util/List", "size", "()I"⟩ : MethodName)) (z := (⟨"java/util/ImmutableCollections$ListN", "size", "()I"⟩ : MethodName)) (a := r) (pc' := 9) C X101 (tw hw 155 rfl) (tw hw 156 rfl) (tw hw 157 rfl) (tw hw 158 rfl) (tw hw 159 rfl) (tw hw 160 rfl) (tw hw 161 rfl) (tw hw 162 rfl) rfl Er (by decide) (rm_sz7 l Z a0 hw r q kq d h0 O0 Er Fr_ Aq) (tw hw 164 rfl) (tw hw 163 rfl) e101 (argsL := []) (rest := []) (W := 0) rfl rfl pd_18 rfl (Nat.le_of_eq rfl) rfl (by decide) (by decide) (by decide) (by decide) d22_4 rfl ?_
  intro T102 v102 L102 X102 q102
  obtain ⟨rfl, rfl, e102⟩ := q102
  have N102 := Fr.app N0 (Fr.nil _)
  refine Go.iconst (z := (1 : Int32)) (pc' := 10) C X102 d22_9 rfl rfl ?_
  refine Go.iadd (pc' := 11) C X102 d22_10 rfl ?_
  rw [show ((7 : Int32) + (1 : Int32)) = (8 : Int32) from by decide]
  exact Go.retI C X102 rfl d22_11 (by rw [e102]; exact ⟨rfl, (by simp), rfl⟩) (by decide) (by decide)
theorem pd_19 : parseMethodDescriptor "(C)Ljava/lang/String;" = some ⟨[.char], some (.object "java/lang/String")⟩ := by decide +kernel
theorem pd_20 : parseMethodDescriptor "(ILjava/time/LocalDate;Ljava/time/LocalDate;)V" = some ⟨[.int, (.object "java/time/LocalDate"), (.object "java/time/LocalDate")], none⟩ := by decide +kernel
theorem pd_21 : parseMethodDescriptor "(Lcom/example/tranche/tranche/journal/Entry;Z)V" = some ⟨[(.object "com/example/tranche/tranche/journal/Entry"), .boolean], none⟩ := by decide +kernel
theorem pd_22 : parseMethodDescriptor "(Ljava/lang/String;Ljava/util/List;Z)V" = some ⟨[(.object "java/lang/String"), (.object "java/util/List"), .boolean], none⟩ := by decide +kernel
theorem pd_23 : parseMethodDescriptor "(Ljava/lang/Object;)Z" = some ⟨[(.object "java/lang/Object")], some .boolean⟩ := by decide +kernel
theorem pf_0 : plainFor x = true := plainFor_of_name (by first | (simp [plainName, overriddenIn, x]; done) | decide +kernel)
def Q_law (Z : State) (p1 : Int32) (p2 : Int32) (p3 : Int32) (p4 : Int32) (cP : Int32) (dc : Addr) (kd : ClassId) (em : Addr) (el : Addr) (ea : Addr) (ke : ClassId) (mr : Addr) (h0 : Heap) (rv : Option Value) (h : Heap) (L : List Loc) : Prop := rv = some (.int (1 : Int32)) ∧ Fr Z.heap.size L ∧ Keep h0 h []
set_option maxRecDepth 65536 in
set_option maxHeartbeats 40000000 in
theorem rm_law (l : Launch) (Z : State) (a0 : Array Value) (hw : ∀ d ∈ tables_1, d.before a0 Z = true) (p1 : Int32) (p2 : Int32) (p3 : Int32) (p4 : Int32) (cP : Int32) (dc : Addr) (kd : ClassId) (em : Addr) (el : Addr) (ea : Addr) (ke : ClassId) (mr : Addr) (h0 : Heap) (O0 : Ext Z.heap h0) (SC : Sta Z Z.heap "java/lang/String" "COMPACT_STRINGS" "Z" (.int cP)) (SD : Sta Z Z.heap "java/util/ArrayList" "DEFAULTCAPACITY_EMPTY_ELEMENTDATA" "[Ljava/lang/Object;" (.ref dc)) (AD : AL Z Z.heap dc kd (.object "java/lang/Object") []) (SE : Sta Z Z.heap "java/util/ImmutableCollections" "EMPTY" "Ljava/lang/Object;" (.ref em)) (Ee : Exa Z Z.heap em "java/lang/Object") (SL : Sta Z Z.heap "java/util/ImmutableCollections" "EMPTY_LIST" "Ljava/util/ImmutableCollections$ListN;" (.ref el)) (El : Exa Z Z.heap el "java/util/ImmutableCollections$ListN") (Fl : Fld Z Z.heap el "java/util/ImmutableCollections$ListN" "elements" "[Ljava/lang/Object;" (.ref ea)) (Al : AL Z Z.heap ea ke (.object "java/lang/Object") []) (hP : ¬ cP = (0 : Int32)) (hM : Mir Z "[Ljava/lang/Object;" mr) :
    Met1 l Z x code maxLocals ret room_1 #[(.int p1), (.int p2), (.int p3), (.int p4)] h0 (Q_law Z p1 p2 p3 p4 cP dc kd em el ea ke mr h0) := by
  refine Met1.of_body (Ls := #[.val (.int p1), .val (.int p2), .val (.int p3), .val (.int p4), .unset, .unset, .unset, .unset, .unset, .unset]) pf_0 (fun m => by first | (simp [entryFrame, mkF, argsToLocals, Value.category, maxLocals]; done) | rfl) ?_
  intro p e s m below meth c T0 C X0 e0
  have N0 : Fr Z.heap.size [] := Fr.nil _
  refine Go.iloadN (pc' := 1) C X0 at_0 rfl rfl ?_
  refine Go.bipush (z := (7 : Int32)) (pc' := 3) C X0 at_1 rfl rfl ?_
  refine Go.iand (pc' := 4) C X0 at_3 rfl ?_
  refine Go.istore (Ls' := #[.val (.int p1), .val (.int p2), .val (.int p3), .val (.int p4), .val (.int (p1 &&& (7 : Int32))), .unset, .unset, .unset, .unset, .unset]) (pc' := 6) C X0 at_4 rfl rfl ?_
  rcases own_c8 p1 with hl | hl | hl | hl | hl | hl | hl | hl
  · rw [hl]
    refine Go.iloadN (pc' := 7) C X0 at_6 rfl rfl ?_
    refine Go.iconst (z := (1 : Int32)) (pc' := 8) C X0 at_7 rfl rfl ?_
    refine Go.iand (pc' := 9) C X0 at_8 rfl ?_
    have K17 : ∀ (T101 : State) (L101 : List Loc), Stand p l e room_1 s m #[(.int p1), (.int p2), (.int p3), (.int p4)] below meth c T101 L101 0 0 → T101.heap = h0 → Fr Z.heap.size L101 → ∀ (x : Int32), Go p e below (Fn s room_1.cells room_1.slots (Q_law Z p1 p2 p3 p4 cP dc kd em el ea ke mr h0)) T101 (mkF m 17 #[.val (.int p1), .val (.int p2), .val (.int p3), .val (.int p4), .val (.int (0 : Int32)), .unset, .unset, .unset, .unset, .unset] [(.int x)]) := by
      intro T101 L101 X101 e101 N101 x
      refine Go.istore (Ls' := #[.val (.int p1), .val (.int p2), .val (.int p3), .val (.int p4), .val (.int (0 : Int32)), .val (.int x), .unset, .unset, .unset, .unset]) (pc' := 19) C X101 at_17 rfl rfl ?_
      refine Go.iloadN (pc' := 20) C X101 at_19 rfl rfl ?_
      refine Go.sipush (z := (255 : Int32)) (pc' := 23) C X101 at_20 rfl rfl ?_
      refine Go.iand (pc' := 24) C X101 at_23 rfl ?_
      refine Go.i2c (pc' := 25) C X101 at_24 rfl ?_
      refine Go.callS (y := (⟨"java/lang/String", "valueOf", "(C)Ljava/lang/String;"⟩ : MethodName)) (pc' := 28) C X101 (tw hw 0 rfl) (tw hw 1 rfl) (by decide) (rm_vc l Z a0 hw (((p3 &&& (255 : Int32)).toUInt32.toUInt16.toUInt32.toInt32)) cP h0 O0 SC (own_c255 p3) hP) (tw hw 3 rfl) (tw hw 2 rfl) e101 (argsL := [(.int ((p3 &&& (255 : Int32)).toUInt32.toUInt16.toUInt32.toInt32))]) (rest := []) (W := 0) rfl rfl pd_19 rfl (Nat.le_of_eq rfl) rfl (by decide) (by decide) (by decide) (by decide) at_25 rfl ?_
      intro T102 v102 L102 X102 q102
      obtain ⟨r_102, rfl, N102q, K102, B102_0, P102_0⟩ := q102
      have N102 := Fr.app N101 N102q
      have n_r_102 : Z.heap.size ≤ r_102 := Nat.le_trans O0.1 B102_0
      have z_r_102 : h0.size ≤ r_102 := Nat.le_trans (Nat.le_refl _) B102_0
      refine Go.astore (Ls' := #[.val (.int p1), .val (.int p2), .val (.int p3), .val (.int p4), .val (.int (0 : Int32)), .val (.int x), .val (.ref r_102), .unset, .unset, .unset]) (pc' := 30) C X102 at_28 rfl rfl rfl ?_
      have O104 : Ext Z.heap T102.heap := (Ext.keep O0 K102 all0)
      refine Go.newO (pc' := 33) C X102 (tw hw 26 rfl) (tw hw 27 rfl) (tw hw 28 rfl) rfl (by decide) (by decide) at_30 rfl ?_
      intro T103 h103 b103 X103 e103 g103 E103 A103 D103
      have n_b103 : Z.heap.size ≤ b103 := Nat.le_trans O104.1 (Nat.le_of_eq g103.symm)
      have z_b103 : h0.size ≤ b103 := Nat.le_trans (Nat.le_trans (Nat.le_refl _) K102.1) (Nat.le_of_eq g103.symm)
      have F103_entry : Fld Z h103 b103 "com/example/tranche/tranche/journal/DefaultRateChange" "entry" "Lcom/example/tranche/tranche/journal/Entry;" .null := D103 (Or.inr (tw hw 52 rfl)) (ty := (.object "com/example/tranche/tranche/journal/Entry")) (by decide)
      have F103_applies : Fld Z h103 b103 "com/example/tranche/tranche/journal/DefaultRateChange" "applies" "Z" (.int (0 : Int32)) := D103 (Or.inr (tw hw 54 rfl)) (ty := .boolean) (by decide)
      refine Go.dup (pc' := 34) C X103 at_33 rfl rfl ?_
      have O106 : Ext Z.heap h103 := (Ext.trans O104 E103)
      refine Go.newO (pc' := 37) C X103 (tw hw 29 rfl) (tw hw 30 rfl) (tw hw 31 rfl) e103 (by decide) (by decide) at_34 rfl ?_
      intro T105 h105 b105 X105 e105 g105 E105 A105 D105
      have n_b105 : Z.heap.size ≤ b105 := Nat.le_trans O106.1 (Nat.le_of_eq g105.symm)
      have z_b105 : h0.size ≤ b105 := Nat.le_trans (Nat.le_trans (Nat.le_trans (Nat.le_refl _) K102.1) E103.1) (Nat.le_of_eq g105.symm)
      have F105_line : Fld Z h105 b105 "com/example/tranche/tranche/journal/Entry" "line" "I" (.int (0 : Int32)) := D105 (Or.inr (tw hw 42 rfl)) (ty := .int) (by decide)
      have F105_date : Fld Z h105 b105 "com/example/tranche/tranche/journal/Entry" "date" "Ljava/time/LocalDate;" .null := D105 (Or.inr (tw hw 44 rfl)) (ty := (.object "java/time/LocalDate")) (by decide)
      have F105_recorded : Fld Z h105 b105 "com/example/tranche/tranche/journal/Entry" "recorded" "Ljava/time/LocalDate;" .null := D105 (Or.inr (tw hw 46 rfl)) (ty := (.object "java/time/LocalDate")) (by decide)
      refine Go.dup (pc' := 38) C X105 at_37 rfl rfl ?_
      refine Go.iloadN (pc' := 39) C X105 at_38 rfl rfl ?_
      refine Go.aconstNull (pc' := 40) C X105 at_39 rfl ?_
      refine Go.aconstNull (pc' := 41) C X105 at_40 rfl ?_
      have O108 : Ext Z.heap h105 := (Ext.trans O106 E105)
      refine Go.callI (y := (⟨"com/example/tranche/tranche/journal/Entry", "<init>", "(ILjava/time/LocalDate;Ljava/time/LocalDate;)V"⟩ : MethodName)) (a := b105) (pc' := 44) C X105 rfl (tw hw 32 rfl) (tw hw 33 rfl) (by decide) (rm_en l Z a0 hw b105 p4 h105 O108 A105 F105_line F105_date F105_recorded n_b105) (tw hw 34 rfl) (tw hw 31 rfl) e105 (argsL := [(.int p4), .null, .null]) (rest := [(.ref b105), (.ref b103), (.ref b103)]) (W := 3) rfl rfl pd_20 rfl (Nat.le_of_eq rfl) rfl (by decide) (by decide) (by decide) (by decide) rfl at_41 rfl ?_
      intro T107 v107 L107 X107 q107
      obtain ⟨rfl, N107q, K107⟩ := q107
      have N107 := Fr.app N102 N107q
      refine Go.iloadN (pc' := 45) C X107 at_44 rfl rfl ?_
      refine Go.iconst (z := (2 : Int32)) (pc' := 46) C X107 at_45 rfl rfl ?_
      refine Go.iand (pc' := 47) C X107 at_46 rfl ?_
      have K55 : ∀ (T109 : State) (L109 : List Loc), Stand p l e room_1 s m #[(.int p1), (.int p2), (.int p3), (.int p4)] below meth c T109 L109 4 10 → T109.heap = T107.heap → Fr Z.heap.size L109 → ∀ (y : Int32), Go p e below (Fn s room_1.cells room_1.slots (Q_law Z p1 p2 p3 p4 cP dc kd em el ea ke mr h0)) T109 (mkF m 55 #[.val (.int p1), .val (.int p2), .val (.int p3), .val (.int p4), .val (.int (0 : Int32)), .val (.int x), .val (.ref r_102), .unset, .unset, .unset] [(.int y), (.ref b105), (.ref b103), (.ref b103)]) := by
        intro T109 L109 X109 e109 N109 y
        have c111 : Exa Z T107.heap b103 "com/example/tranche/tranche/journal/DefaultRateChange" := (Exa.keep (Exa.ext E105 A103) K107)
        have ne112 : b103 ≠ b105 := Nat.ne_of_lt (Nat.lt_of_lt_of_le A103.lt (Nat.le_trans (Nat.le_refl _) (Nat.le_of_eq g105.symm)))
        have c113 : Fld Z T107.heap b103 "com/example/tranche/tranche/journal/DefaultRateChange" "entry" "Lcom/example/tranche/tranche/journal/Entry;" .null := (Fld.keep (Fld.ext E105 F103_entry) K107 (ninS ne112 nin0))
        have c114 : Fld Z T107.heap b103 "com/example/tranche/tranche/journal/DefaultRateChange" "applies" "Z" (.int (0 : Int32)) := (Fld.keep (Fld.ext E105 F103_applies) K107 (ninS ne112 nin0))
        have O115 : Ext Z.heap T107.heap := (Ext.keep O108 K107 (allS n_b105 all0))
        refine Go.callI (y := (⟨"com/example/tranche/tranche/journal/DefaultRateChange", "<init>", "(Lcom/example/tranche/tranche/journal/Entry;Z)V"⟩ : MethodName)) (a := b103) (pc' := 58) C X109 rfl (tw hw 47 rfl) (tw hw 48 rfl) (by decide) (rm_dr l Z a0 hw b103 b105 y T107.heap O115 c111 c113 c114 n_b103) (tw hw 49 rfl) (tw hw 28 rfl) e109 (argsL := [(.ref b105), (.int y)]) (rest := [(.ref b103)]) (W := 1) rfl rfl pd_21 rfl (Nat.le_of_eq rfl) rfl (by decide) (by decide) (by decide) (by decide) rfl at_55 rfl ?_
        intro T110 v110 L110 X110 q110
        obtain ⟨rfl, N110q, K110⟩ := q110
        have N110 := Fr.app N109 N110q
        refine Go.astore (Ls' := #[.val (.int p1), .val (.int p2), .val (.int p3), .val (.int p4), .val (.int (0 : Int32)), .val (.int x), .val (.ref r_102), .val (.ref b103), .unset, .unset]) (pc' := 60) C X110 at_58 rfl rfl rfl ?_
        have O117 : Ext Z.heap T110.heap := (Ext.keep O115 K110 (allS n_b103 all0))
        refine Go.newO (pc' := 63) C X110 (tw hw 55 rfl) (tw hw 56 rfl) (tw hw 57 rfl) rfl (by decide) (by decide) at_60 rfl ?_
        intro T116 h116 b116 X116 e116 g116 E116 A116 D116
        have n_b116 : Z.heap.size ≤ b116 := Nat.le_trans O117.1 (Nat.le_of_eq g116.symm)
        have z_b116 : h0.size ≤ b116 := Nat.le_trans (Nat.le_trans (Nat.le_trans (Nat.le_trans (Nat.le_trans (Nat.le_trans (Nat.le_refl _) K102.1) E103.1) E105.1) K107.1) K110.1) (Nat.le_of_eq g116.symm)
        have F116_modCount : Fld Z h116 b116 "java/util/AbstractList" "modCount" "I" (.int (0 : Int32)) := D116 (Or.inl (tw hw 75 rfl)) (ty := .int) (by decide)
        have F116_elementData : Fld Z h116 b116 "java/util/ArrayList" "elementData" "[Ljava/lang/Object;" .null := D116 (Or.inl (tw hw 78 rfl)) (ty := (.array (.object "java/lang/Object"))) (by decide)
        have F116_size : Fld Z h116 b116 "java/util/ArrayList" "size" "I" (.int (0 : Int32)) := D116 (Or.inl (tw hw 110 rfl)) (ty := .int) (by decide)
        refine Go.dup (pc' := 64) C X116 at_63 rfl rfl ?_
        have O119 : Ext Z.heap h116 := (Ext.trans O117 E116)
        refine Go.callI (y := (⟨"java/util/ArrayList", "<init>", "()V"⟩ : MethodName)) (a := b116) (pc' := 67) C X116 rfl (tw hw 58 rfl) (tw hw 59 rfl) (by decide) (rm_alI l Z a0 hw b116 dc h116 O119 A116 F116_modCount F116_elementData F116_size SD n_b116) (tw hw 60 rfl) (tw hw 57 rfl) e116 (argsL := []) (rest := [(.ref b116)]) (W := 1) rfl rfl pd_3 rfl (Nat.le_of_eq rfl) rfl (by decide) (by decide) (by decide) (by decide) rfl at_64 rfl ?_
        intro T118 v118 L118 X118 q118
        obtain ⟨rfl, N118q, K118, P118_0, P118_1, P118_2⟩ := q118
        have N118 := Fr.app N110 N118q
        refine Go.astore (Ls' := #[.val (.int p1), .val (.int p2), .val (.int p3), .val (.int p4), .val (.int (0 : Int32)), .val (.int x), .val (.ref r_102), .val (.ref b103), .val (.ref b116), .unset]) (pc' := 69) C X118 at_67 rfl rfl rfl ?_
        refine Go.iload (pc' := 71) C X118 at_69 rfl rfl ?_
        refine Go.ifYes (pc' := 82) C X118 at_71 ((if0 _ _).trans (flt (x := (0 : Int32)) (y := (0 : Int32)) (by decide)).2.2.2) (by decide) (by decide) ?_
        refine Go.iload (pc' := 84) C X118 at_82 rfl rfl ?_
        refine Go.iconst (z := (1 : Int32)) (pc' := 85) C X118 at_84 rfl rfl ?_
        refine Go.icmpYes (pc' := 96) C X118 at_85 (flt (x := (1 : Int32)) (y := (0 : Int32)) (by decide)).2.2.2 (by decide) (by decide) ?_
        refine Go.iload (pc' := 98) C X118 at_96 rfl rfl ?_
        refine Go.iconst (z := (2 : Int32)) (pc' := 99) C X118 at_98 rfl rfl ?_
        refine Go.icmpYes (pc' := 110) C X118 at_99 (flt (x := (2 : Int32)) (y := (0 : Int32)) (by decide)).2.2.2 (by decide) (by decide) ?_
        refine Go.iload (pc' := 112) C X118 at_110 rfl rfl ?_
        refine Go.iconst (z := (3 : Int32)) (pc' := 113) C X118 at_112 rfl rfl ?_
        refine Go.icmpYes (pc' := 124) C X118 at_113 (flt (x := (3 : Int32)) (y := (0 : Int32)) (by decide)).2.2.2 (by decide) (by decide) ?_
        refine Go.iload (pc' := 126) C X118 at_124 rfl rfl ?_
        refine Go.iconst (z := (4 : Int32)) (pc' := 127) C X118 at_126 rfl rfl ?_
        refine Go.icmpYes (pc' := 138) C X118 at_127 (flt (x := (4 : Int32)) (y := (0 : Int32)) (by decide)).2.2.2 (by decide) (by decide) ?_
        refine Go.iload (pc' := 140) C X118 at_138 rfl rfl ?_
        refine Go.iconst (z := (5 : Int32)) (pc' := 141) C X118 at_140 rfl rfl ?_
        refine Go.icmpYes (pc' := 152) C X118 at_141 (flt (x := (5 : Int32)) (y := (0 : Int32)) (by decide)).2.2.2 (by decide) (by decide) ?_
        refine Go.iload (pc' := 154) C X118 at_152 rfl rfl ?_
        refine Go.bipush (z := (6 : Int32)) (pc' := 156) C X118 at_154 rfl rfl ?_
        refine Go.icmpYes (pc' := 167) C X118 at_156 (flt (x := (6 : Int32)) (y := (0 : Int32)) (by decide)).2.2.2 (by decide) (by decide) ?_
        have O128 : Ext Z.heap T118.heap := (Ext.keep O119 K118 (allS n_b116 all0))
        refine Go.newO (pc' := 170) C X118 (tw hw 79 rfl) (tw hw 80 rfl) (tw hw 81 rfl) rfl (by decide) (by decide) at_167 rfl ?_
        intro T127 h127 b127 X127 e127 g127 E127 A127 D127
        have n_b127 : Z.heap.size ≤ b127 := Nat.le_trans O128.1 (Nat.le_of_eq g127.symm)
        have z_b127 : h0.size ≤ b127 := Nat.le_trans (Nat.le_trans (Nat.le_trans (Nat.le_trans (Nat.le_trans (Nat.le_trans (Nat.le_trans (Nat.le_trans (Nat.le_refl _) K102.1) E103.1) E105.1) K107.1) K110.1) E116.1) K118.1) (Nat.le_of_eq g127.symm)
        have F127_source : Fld Z h127 b127 "com/example/tranche/tranche/journal/Journal" "source" "Ljava/lang/String;" .null := D127 (Or.inr (tw hw 116 rfl)) (ty := (.object "java/lang/String")) (by decide)
        have F127_events : Fld Z h127 b127 "com/example/tranche/tranche/journal/Journal" "events" "Ljava/util/List;" .null := D127 (Or.inr (tw hw 118 rfl)) (ty := (.object "java/util/List")) (by decide)
        have F127_incomplete : Fld Z h127 b127 "com/example/tranche/tranche/journal/Journal" "incomplete" "Z" (.int (0 : Int32)) := D127 (Or.inr (tw hw 120 rfl)) (ty := .boolean) (by decide)
        refine Go.dup (pc' := 171) C X127 at_170 rfl rfl ?_
        refine Go.aload (pc' := 173) C X127 at_171 rfl rfl rfl ?_
        refine Go.aload (pc' := 175) C X127 at_173 rfl rfl rfl ?_
        refine Go.iload (pc' := 177) C X127 at_175 rfl rfl ?_
        have c130 : Exa Z h127 b116 "java/util/ArrayList" := (Exa.ext E127 (Exa.keep A116 K118))
        have c131 : Fld Z h127 b116 "java/util/ArrayList" "elementData" "[Ljava/lang/Object;" (.ref dc) := (Fld.ext E127 P118_1)
        have c132 : Fld Z h127 b116 "java/util/ArrayList" "size" "I" (.int (0 : Int32)) := (Fld.ext E127 P118_2)
        have O133 : Ext Z.heap h127 := (Ext.trans O128 E127)
        refine Go.callI (y := (⟨"com/example/tranche/tranche/journal/Journal", "<init>", "(Ljava/lang/String;Ljava/util/List;Z)V"⟩ : MethodName)) (a := b127) (pc' := 180) C X127 rfl (tw hw 82 rfl) (tw hw 83 rfl) (by decide) (rm_jI0 l Z a0 hw b127 r_102 x b116 dc el h127 O133 A127 F127_source F127_events F127_incomplete c130 c131 c132 SL n_b127) (tw hw 84 rfl) (tw hw 81 rfl) e127 (argsL := [(.ref r_102), (.ref b116), (.int x)]) (rest := [(.ref b127)]) (W := 1) rfl rfl pd_22 rfl (Nat.le_of_eq rfl) rfl (by decide) (by decide) (by decide) (by decide) rfl at_177 rfl ?_
        intro T129 v129 L129 X129 q129
        obtain ⟨rfl, N129q, K129, P129_0⟩ := q129
        have N129 := Fr.app N118 N129q
        refine Go.astore (Ls' := #[.val (.int p1), .val (.int p2), .val (.int p3), .val (.int p4), .val (.int (0 : Int32)), .val (.int x), .val (.ref r_102), .val (.ref b103), .val (.ref b116), .val (.ref b127)]) (pc' := 182) C X129 at_180 rfl rfl rfl ?_
        refine Go.aload (pc' := 184) C X129 at_182 rfl rfl rfl ?_
        refine Go.aload (pc' := 186) C X129 at_184 rfl rfl rfl ?_
        have c135 : Exa Z T129.heap b116 "java/util/ArrayList" := (Exa.keep c130 K129)
        have c136 : Exa Z T129.heap b103 "com/example/tranche/tranche/journal/DefaultRateChange" := (Exa.keep (Exa.ext E127 (Exa.keep (Exa.ext E116 (Exa.keep c111 K110)) K118)) K129)
        have ne137 : b116 ≠ b127 := Nat.ne_of_lt (Nat.lt_of_lt_of_le A116.lt (Nat.le_trans (Nat.le_trans (Nat.le_refl _) K118.1) (Nat.le_of_eq g127.symm)))
        have c138 : Fld Z T129.heap b116 "java/util/AbstractList" "modCount" "I" (.int (0 : Int32)) := (Fld.keep (Fld.ext E127 P118_0) K129 (ninS ne137 nin0))
        have c139 : Fld Z T129.heap b116 "java/util/ArrayList" "elementData" "[Ljava/lang/Object;" (.ref dc) := (Fld.keep c131 K129 (ninS ne137 nin0))
        have c140 : Fld Z T129.heap b116 "java/util/ArrayList" "size" "I" (.int (0 : Int32)) := (Fld.keep c132 K129 (ninS ne137 nin0))
        have O141 : Ext Z.heap T129.heap := (Ext.keep O133 K129 (allS n_b127 all0))
        refine Go.callV (y := (⟨"java/util/ArrayList", "add", "(Ljava/lang/Object;)Z"⟩ : MethodName)) (z := (⟨"java/util/ArrayList", "add", "(Ljava/lang/Object;)Z"⟩ : MethodName)) (a := b116) (pc' := 189) C X129 (tw hw 121 rfl) (tw hw 122 rfl) (notFace_at C.2.1 (tw hw 124 rfl)) (tw hw 124 rfl) (tw hw 123 rfl) c135 (by decide) (rm_add0 l Z a0 hw b116 b103 dc kd ((0 : Int32)) T129.heap O141 c135 c136 c138 c139 c140 SD AD n_b116) (tw hw 125 rfl) (tw hw 57 rfl) rfl (argsL := [(.ref b103)]) (rest := []) (W := 0) rfl rfl pd_23 rfl (Nat.le_of_eq rfl) rfl (by decide) (by decide) (by decide) (by decide) at_186 rfl ?_
        intro T134 v134 L134 X134 q134
        obtain ⟨w_134, kw_134, rfl, N134q, K134, B134_0, P134_0, P134_1, P134_2, P134_3, P134_4, p134_0⟩ := q134
        have N134 := Fr.app N129 N134q
        have n_w_134 : Z.heap.size ≤ w_134 := Nat.le_trans O141.1 B134_0
        have z_w_134 : h0.size ≤ w_134 := Nat.le_trans (Nat.le_trans (Nat.le_trans (Nat.le_trans (Nat.le_trans (Nat.le_trans (Nat.le_trans (Nat.le_trans (Nat.le_trans (Nat.le_trans (Nat.le_refl _) K102.1) E103.1) E105.1) K107.1) K110.1) E116.1) K118.1) E127.1) K129.1) B134_0
        refine Go.pop (pc' := 190) C X134 at_189 rfl rfl ?_
        refine Go.aload (pc' := 192) C X134 at_190 rfl rfl rfl ?_
        have c143 : Fld Z T134.heap b127 "com/example/tranche/tranche/journal/Journal" "events" "Ljava/util/List;" (.ref el) := (Fld.keep P129_0 K134 (ninS (Ne.symm ne137) nin0))
        have O144 : Ext Z.heap T134.heap := (Ext.keep O141 K134 (allS n_b116 all0))
        have c145 : Exa Z T134.heap b127 "com/example/tranche/tranche/journal/Journal" := (Exa.keep (Exa.keep A127 K129) K134)
        refine Go.callV (y := (⟨"com/example/tranche/tranche/journal/Journal", "nextLine", "()I"⟩ : MethodName)) (z := (⟨"com/example/tranche/tranche/journal/Journal", "nextLine", "()I"⟩ : MethodName)) (a := b127) (pc' := 195) C X134 (tw hw 150 rfl) (tw hw 151 rfl) (notFace_at C.2.1 (tw hw 153 rfl)) (tw hw 153 rfl) (tw hw 152 rfl) c145 (by decide) (rm_nl0 l Z a0 hw b127 el ea ke T134.heap O144 c143 El Fl Al) (tw hw 154 rfl) (tw hw 81 rfl) rfl (argsL := []) (rest := []) (W := 0) rfl rfl pd_18 rfl (Nat.le_of_eq rfl) rfl (by decide) (by decide) (by decide) (by decide) at_192 rfl ?_
        intro T142 v142 L142 X142 q142
        obtain ⟨rfl, rfl, e142⟩ := q142
        have N142 := Fr.app N134 (Fr.nil _)
        refine Go.iload (pc' := 197) C X142 at_195 rfl rfl ?_
        refine Go.iconst (z := (1 : Int32)) (pc' := 198) C X142 at_197 rfl rfl ?_
        refine Go.iadd (pc' := 199) C X142 at_198 rfl ?_
        rw [show ((0 : Int32) + (1 : Int32)) = (1 : Int32) from by decide]
        refine Go.icmpNo (pc' := 202) C X142 at_199 (teq (x := (1 : Int32)) (y := (1 : Int32)) (by decide)).2 rfl ?_
        refine Go.iconst (z := (1 : Int32)) (pc' := 203) C X142 at_202 rfl rfl ?_
        refine Go.goto (pc' := 207) C X142 at_203 (by decide) (by decide) ?_
        have K147 : Keep h0 T134.heap [] := (((((((((((Keep.refl h0 []).trans K102 all0).ext E103).ext E105).trans K107 (allS (Or.inr z_b105) all0)).trans K110 (allS (Or.inr z_b103) all0)).ext E116).trans K118 (allS (Or.inr z_b116) all0)).ext E127).trans K129 (allS (Or.inr z_b127) all0)).trans K134 (allS (Or.inr z_b116) all0))
        exact Go.retN C X142 rfl at_207 (by simp) (by rw [e142]; exact ⟨rfl, N142, K147⟩) (by decide) (by decide)
      by_cases hc47_148 : (p2 &&& (2 : Int32)) = (0 : Int32)
      · refine Go.ifYes (pc' := 54) C X107 at_47 ((if0 _ _).trans (teq (x := (p2 &&& (2 : Int32))) (y := (0 : Int32)) hc47_148).1) (by decide) (by decide) ?_
        refine Go.iconst (z := (0 : Int32)) (pc' := 55) C X107 at_54 rfl rfl ?_
        exact K55 _ _ X107 rfl N107 (0 : Int32) 
      · refine Go.ifNo (pc' := 50) C X107 at_47 ((if0 _ _).trans (feq (x := (p2 &&& (2 : Int32))) (y := (0 : Int32)) hc47_148).1) rfl ?_
        refine Go.iconst (z := (1 : Int32)) (pc' := 51) C X107 at_50 rfl rfl ?_
        refine Go.goto (pc' := 55) C X107 at_51 (by decide) (by decide) ?_
        exact K55 _ _ X107 rfl N107 (1 : Int32) 
    by_cases hc9_149 : (p2 &&& (1 : Int32)) = (0 : Int32)
    · refine Go.ifYes (pc' := 16) C X0 at_9 ((if0 _ _).trans (teq (x := (p2 &&& (1 : Int32))) (y := (0 : Int32)) hc9_149).1) (by decide) (by decide) ?_
      refine Go.iconst (z := (0 : Int32)) (pc' := 17) C X0 at_16 rfl rfl ?_
      exact K17 _ _ X0 e0 N0 (0 : Int32) 
    · refine Go.ifNo (pc' := 12) C X0 at_9 ((if0 _ _).trans (feq (x := (p2 &&& (1 : Int32))) (y := (0 : Int32)) hc9_149).1) rfl ?_
      refine Go.iconst (z := (1 : Int32)) (pc' := 13) C X0 at_12 rfl rfl ?_
      refine Go.goto (pc' := 17) C X0 at_13 (by decide) (by decide) ?_
      exact K17 _ _ X0 e0 N0 (1 : Int32) 
  · rw [hl]
    refine Go.iloadN (pc' := 7) C X0 at_6 rfl rfl ?_
    refine Go.iconst (z := (1 : Int32)) (pc' := 8) C X0 at_7 rfl rfl ?_
    refine Go.iand (pc' := 9) C X0 at_8 rfl ?_
    have K17 : ∀ (T150 : State) (L150 : List Loc), Stand p l e room_1 s m #[(.int p1), (.int p2), (.int p3), (.int p4)] below meth c T150 L150 0 0 → T150.heap = h0 → Fr Z.heap.size L150 → ∀ (x : Int32), Go p e below (Fn s room_1.cells room_1.slots (Q_law Z p1 p2 p3 p4 cP dc kd em el ea ke mr h0)) T150 (mkF m 17 #[.val (.int p1), .val (.int p2), .val (.int p3), .val (.int p4), .val (.int (1 : Int32)), .unset, .unset, .unset, .unset, .unset] [(.int x)]) := by
      intro T150 L150 X150 e150 N150 x
      refine Go.istore (Ls' := #[.val (.int p1), .val (.int p2), .val (.int p3), .val (.int p4), .val (.int (1 : Int32)), .val (.int x), .unset, .unset, .unset, .unset]) (pc' := 19) C X150 at_17 rfl rfl ?_
      refine Go.iloadN (pc' := 20) C X150 at_19 rfl rfl ?_
      refine Go.sipush (z := (255 : Int32)) (pc' := 23) C X150 at_20 rfl rfl ?_
      refine Go.iand (pc' := 24) C X150 at_23 rfl ?_
      refine Go.i2c (pc' := 25) C X150 at_24 rfl ?_
      refine Go.callS (y := (⟨"java/lang/String", "valueOf", "(C)Ljava/lang/String;"⟩ : MethodName)) (pc' := 28) C X150 (tw hw 0 rfl) (tw hw 1 rfl) (by decide) (rm_vc l Z a0 hw (((p3 &&& (255 : Int32)).toUInt32.toUInt16.toUInt32.toInt32)) cP h0 O0 SC (own_c255 p3) hP) (tw hw 3 rfl) (tw hw 2 rfl) e150 (argsL := [(.int ((p3 &&& (255 : Int32)).toUInt32.toUInt16.toUInt32.toInt32))]) (rest := []) (W := 0) rfl rfl pd_19 rfl (Nat.le_of_eq rfl) rfl (by decide) (by decide) (by decide) (by decide) at_25 rfl ?_
      intro T151 v151 L151 X151 q151
      obtain ⟨r_151, rfl, N151q, K151, B151_0, P151_0⟩ := q151
      have N151 := Fr.app N150 N151q
      have n_r_151 : Z.heap.size ≤ r_151 := Nat.le_trans O0.1 B151_0
      have z_r_151 : h0.size ≤ r_151 := Nat.le_trans (Nat.le_refl _) B151_0
      refine Go.astore (Ls' := #[.val (.int p1), .val (.int p2), .val (.int p3), .val (.int p4), .val (.int (1 : Int32)), .val (.int x), .val (.ref r_151), .unset, .unset, .unset]) (pc' := 30) C X151 at_28 rfl rfl rfl ?_
      have O153 : Ext Z.heap T151.heap := (Ext.keep O0 K151 all0)
      refine Go.newO (pc' := 33) C X151 (tw hw 26 rfl) (tw hw 27 rfl) (tw hw 28 rfl) rfl (by decide) (by decide) at_30 rfl ?_
      intro T152 h152 b152 X152 e152 g152 E152 A152 D152
      have n_b152 : Z.heap.size ≤ b152 := Nat.le_trans O153.1 (Nat.le_of_eq g152.symm)
      have z_b152 : h0.size ≤ b152 := Nat.le_trans (Nat.le_trans (Nat.le_refl _) K151.1) (Nat.le_of_eq g152.symm)
      have F152_entry : Fld Z h152 b152 "com/example/tranche/tranche/journal/DefaultRateChange" "entry" "Lcom/example/tranche/tranche/journal/Entry;" .null := D152 (Or.inr (tw hw 52 rfl)) (ty := (.object "com/example/tranche/tranche/journal/Entry")) (by decide)
      have F152_applies : Fld Z h152 b152 "com/example/tranche/tranche/journal/DefaultRateChange" "applies" "Z" (.int (0 : Int32)) := D152 (Or.inr (tw hw 54 rfl)) (ty := .boolean) (by decide)
      refine Go.dup (pc' := 34) C X152 at_33 rfl rfl ?_
      have O155 : Ext Z.heap h152 := (Ext.trans O153 E152)
      refine Go.newO (pc' := 37) C X152 (tw hw 29 rfl) (tw hw 30 rfl) (tw hw 31 rfl) e152 (by decide) (by decide) at_34 rfl ?_
      intro T154 h154 b154 X154 e154 g154 E154 A154 D154
      have n_b154 : Z.heap.size ≤ b154 := Nat.le_trans O155.1 (Nat.le_of_eq g154.symm)
      have z_b154 : h0.size ≤ b154 := Nat.le_trans (Nat.le_trans (Nat.le_trans (Nat.le_refl _) K151.1) E152.1) (Nat.le_of_eq g154.symm)
      have F154_line : Fld Z h154 b154 "com/example/tranche/tranche/journal/Entry" "line" "I" (.int (0 : Int32)) := D154 (Or.inr (tw hw 42 rfl)) (ty := .int) (by decide)
      have F154_date : Fld Z h154 b154 "com/example/tranche/tranche/journal/Entry" "date" "Ljava/time/LocalDate;" .null := D154 (Or.inr (tw hw 44 rfl)) (ty := (.object "java/time/LocalDate")) (by decide)
      have F154_recorded : Fld Z h154 b154 "com/example/tranche/tranche/journal/Entry" "recorded" "Ljava/time/LocalDate;" .null := D154 (Or.inr (tw hw 46 rfl)) (ty := (.object "java/time/LocalDate")) (by decide)
      refine Go.dup (pc' := 38) C X154 at_37 rfl rfl ?_
      refine Go.iloadN (pc' := 39) C X154 at_38 rfl rfl ?_
      refine Go.aconstNull (pc' := 40) C X154 at_39 rfl ?_
      refine Go.aconstNull (pc' := 41) C X154 at_40 rfl ?_
      have O157 : Ext Z.heap h154 := (Ext.trans O155 E154)
      refine Go.callI (y := (⟨"com/example/tranche/tranche/journal/Entry", "<init>", "(ILjava/time/LocalDate;Ljava/time/LocalDate;)V"⟩ : MethodName)) (a := b154) (pc' := 44) C X154 rfl (tw hw 32 rfl) (tw hw 33 rfl) (by decide) (rm_en l Z a0 hw b154 p4 h154 O157 A154 F154_line F154_date F154_recorded n_b154) (tw hw 34 rfl) (tw hw 31 rfl) e154 (argsL := [(.int p4), .null, .null]) (rest := [(.ref b154), (.ref b152), (.ref b152)]) (W := 3) rfl rfl pd_20 rfl (Nat.le_of_eq rfl) rfl (by decide) (by decide) (by decide) (by decide) rfl at_41 rfl ?_
      intro T156 v156 L156 X156 q156
      obtain ⟨rfl, N156q, K156⟩ := q156
      have N156 := Fr.app N151 N156q
      refine Go.iloadN (pc' := 45) C X156 at_44 rfl rfl ?_
      refine Go.iconst (z := (2 : Int32)) (pc' := 46) C X156 at_45 rfl rfl ?_
      refine Go.iand (pc' := 47) C X156 at_46 rfl ?_
      have K55 : ∀ (T158 : State) (L158 : List Loc), Stand p l e room_1 s m #[(.int p1), (.int p2), (.int p3), (.int p4)] below meth c T158 L158 4 10 → T158.heap = T156.heap → Fr Z.heap.size L158 → ∀ (y : Int32), Go p e below (Fn s room_1.cells room_1.slots (Q_law Z p1 p2 p3 p4 cP dc kd em el ea ke mr h0)) T158 (mkF m 55 #[.val (.int p1), .val (.int p2), .val (.int p3), .val (.int p4), .val (.int (1 : Int32)), .val (.int x), .val (.ref r_151), .unset, .unset, .unset] [(.int y), (.ref b154), (.ref b152), (.ref b152)]) := by
        intro T158 L158 X158 e158 N158 y
        have c160 : Exa Z T156.heap b152 "com/example/tranche/tranche/journal/DefaultRateChange" := (Exa.keep (Exa.ext E154 A152) K156)
        have ne161 : b152 ≠ b154 := Nat.ne_of_lt (Nat.lt_of_lt_of_le A152.lt (Nat.le_trans (Nat.le_refl _) (Nat.le_of_eq g154.symm)))
        have c162 : Fld Z T156.heap b152 "com/example/tranche/tranche/journal/DefaultRateChange" "entry" "Lcom/example/tranche/tranche/journal/Entry;" .null := (Fld.keep (Fld.ext E154 F152_entry) K156 (ninS ne161 nin0))
        have c163 : Fld Z T156.heap b152 "com/example/tranche/tranche/journal/DefaultRateChange" "applies" "Z" (.int (0 : Int32)) := (Fld.keep (Fld.ext E154 F152_applies) K156 (ninS ne161 nin0))
        have O164 : Ext Z.heap T156.heap := (Ext.keep O157 K156 (allS n_b154 all0))
        refine Go.callI (y := (⟨"com/example/tranche/tranche/journal/DefaultRateChange", "<init>", "(Lcom/example/tranche/tranche/journal/Entry;Z)V"⟩ : MethodName)) (a := b152) (pc' := 58) C X158 rfl (tw hw 47 rfl) (tw hw 48 rfl) (by decide) (rm_dr l Z a0 hw b152 b154 y T156.heap O164 c160 c162 c163 n_b152) (tw hw 49 rfl) (tw hw 28 rfl) e158 (argsL := [(.ref b154), (.int y)]) (rest := [(.ref b152)]) (W := 1) rfl rfl pd_21 rfl (Nat.le_of_eq rfl) rfl (by decide) (by decide) (by decide) (by decide) rfl at_55 rfl ?_
        intro T159 v159 L159 X159 q159
        obtain ⟨rfl, N159q, K159⟩ := q159
        have N159 := Fr.app N158 N159q
        refine Go.astore (Ls' := #[.val (.int p1), .val (.int p2), .val (.int p3), .val (.int p4), .val (.int (1 : Int32)), .val (.int x), .val (.ref r_151), .val (.ref b152), .unset, .unset]) (pc' := 60) C X159 at_58 rfl rfl rfl ?_
        have O166 : Ext Z.heap T159.heap := (Ext.keep O164 K159 (allS n_b152 all0))
        refine Go.newO (pc' := 63) C X159 (tw hw 55 rfl) (tw hw 56 rfl) (tw hw 57 rfl) rfl (by decide) (by decide) at_60 rfl ?_
        intro T165 h165 b165 X165 e165 g165 E165 A165 D165
        have n_b165 : Z.heap.size ≤ b165 := Nat.le_trans O166.1 (Nat.le_of_eq g165.symm)
        have z_b165 : h0.size ≤ b165 := Nat.le_trans (Nat.le_trans (Nat.le_trans (Nat.le_trans (Nat.le_trans (Nat.le_trans (Nat.le_refl _) K151.1) E152.1) E154.1) K156.1) K159.1) (Nat.le_of_eq g165.symm)
        have F165_modCount : Fld Z h165 b165 "java/util/AbstractList" "modCount" "I" (.int (0 : Int32)) := D165 (Or.inl (tw hw 75 rfl)) (ty := .int) (by decide)
        have F165_elementData : Fld Z h165 b165 "java/util/ArrayList" "elementData" "[Ljava/lang/Object;" .null := D165 (Or.inl (tw hw 78 rfl)) (ty := (.array (.object "java/lang/Object"))) (by decide)
        have F165_size : Fld Z h165 b165 "java/util/ArrayList" "size" "I" (.int (0 : Int32)) := D165 (Or.inl (tw hw 110 rfl)) (ty := .int) (by decide)
        refine Go.dup (pc' := 64) C X165 at_63 rfl rfl ?_
        have O168 : Ext Z.heap h165 := (Ext.trans O166 E165)
        refine Go.callI (y := (⟨"java/util/ArrayList", "<init>", "()V"⟩ : MethodName)) (a := b165) (pc' := 67) C X165 rfl (tw hw 58 rfl) (tw hw 59 rfl) (by decide) (rm_alI l Z a0 hw b165 dc h165 O168 A165 F165_modCount F165_elementData F165_size SD n_b165) (tw hw 60 rfl) (tw hw 57 rfl) e165 (argsL := []) (rest := [(.ref b165)]) (W := 1) rfl rfl pd_3 rfl (Nat.le_of_eq rfl) rfl (by decide) (by decide) (by decide) (by decide) rfl at_64 rfl ?_
        intro T167 v167 L167 X167 q167
        obtain ⟨rfl, N167q, K167, P167_0, P167_1, P167_2⟩ := q167
        have N167 := Fr.app N159 N167q
        refine Go.astore (Ls' := #[.val (.int p1), .val (.int p2), .val (.int p3), .val (.int p4), .val (.int (1 : Int32)), .val (.int x), .val (.ref r_151), .val (.ref b152), .val (.ref b165), .unset]) (pc' := 69) C X167 at_67 rfl rfl rfl ?_
        refine Go.iload (pc' := 71) C X167 at_69 rfl rfl ?_
        refine Go.ifNo (pc' := 74) C X167 at_71 ((if0 _ _).trans (tlt (x := (0 : Int32)) (y := (1 : Int32)) (by decide)).2.2.2) rfl ?_
        refine Go.aload (pc' := 76) C X167 at_74 rfl rfl rfl ?_
        refine Go.aload (pc' := 78) C X167 at_76 rfl rfl rfl ?_
        have c171 : Exa Z T167.heap b165 "java/util/ArrayList" := (Exa.keep A165 K167)
        have c172 : Exa Z T167.heap b152 "com/example/tranche/tranche/journal/DefaultRateChange" := (Exa.keep (Exa.ext E165 (Exa.keep c160 K159)) K167)
        have O173 : Ext Z.heap T167.heap := (Ext.keep O168 K167 (allS n_b165 all0))
        refine Go.callV (y := (⟨"java/util/ArrayList", "add", "(Ljava/lang/Object;)Z"⟩ : MethodName)) (z := (⟨"java/util/ArrayList", "add", "(Ljava/lang/Object;)Z"⟩ : MethodName)) (a := b165) (pc' := 81) C X167 (tw hw 121 rfl) (tw hw 122 rfl) (notFace_at C.2.1 (tw hw 124 rfl)) (tw hw 124 rfl) (tw hw 123 rfl) c171 (by decide) (rm_add0 l Z a0 hw b165 b152 dc kd ((0 : Int32)) T167.heap O173 c171 c172 P167_0 P167_1 P167_2 SD AD n_b165) (tw hw 125 rfl) (tw hw 57 rfl) rfl (argsL := [(.ref b152)]) (rest := []) (W := 0) rfl rfl pd_23 rfl (Nat.le_of_eq rfl) rfl (by decide) (by decide) (by decide) (by decide) at_78 rfl ?_
        intro T170 v170 L170 X170 q170
        obtain ⟨w_170, kw_170, rfl, N170q, K170, B170_0, P170_0, P170_1, P170_2, P170_3, P170_4, p170_0⟩ := q170
        have N170 := Fr.app N167 N170q
        have n_w_170 : Z.heap.size ≤ w_170 := Nat.le_trans O173.1 B170_0
        have z_w_170 : h0.size ≤ w_170 := Nat.le_trans (Nat.le_trans (Nat.le_trans (Nat.le_trans (Nat.le_trans (Nat.le_trans (Nat.le_trans (Nat.le_trans (Nat.le_refl _) K151.1) E152.1) E154.1) K156.1) K159.1) E165.1) K167.1) B170_0
        refine Go.pop (pc' := 82) C X170 at_81 rfl rfl ?_
        refine Go.iload (pc' := 84) C X170 at_82 rfl rfl ?_
        refine Go.iconst (z := (1 : Int32)) (pc' := 85) C X170 at_84 rfl rfl ?_
        refine Go.icmpYes (pc' := 96) C X170 at_85 (flt (x := (1 : Int32)) (y := (1 : Int32)) (by decide)).2.2.2 (by decide) (by decide) ?_
        refine Go.iload (pc' := 98) C X170 at_96 rfl rfl ?_
        refine Go.iconst (z := (2 : Int32)) (pc' := 99) C X170 at_98 rfl rfl ?_
        refine Go.icmpYes (pc' := 110) C X170 at_99 (flt (x := (2 : Int32)) (y := (1 : Int32)) (by decide)).2.2.2 (by decide) (by decide) ?_
        refine Go.iload (pc' := 112) C X170 at_110 rfl rfl ?_
        refine Go.iconst (z := (3 : Int32)) (pc' := 113) C X170 at_112 rfl rfl ?_
        refine Go.icmpYes (pc' := 124) C X170 at_113 (flt (x := (3 : Int32)) (y := (1 : Int32)) (by decide)).2.2.2 (by decide) (by decide) ?_
        refine Go.iload (pc' := 126) C X170 at_124 rfl rfl ?_
        refine Go.iconst (z := (4 : Int32)) (pc' := 127) C X170 at_126 rfl rfl ?_
        refine Go.icmpYes (pc' := 138) C X170 at_127 (flt (x := (4 : Int32)) (y := (1 : Int32)) (by decide)).2.2.2 (by decide) (by decide) ?_
        refine Go.iload (pc' := 140) C X170 at_138 rfl rfl ?_
        refine Go.iconst (z := (5 : Int32)) (pc' := 141) C X170 at_140 rfl rfl ?_
        refine Go.icmpYes (pc' := 152) C X170 at_141 (flt (x := (5 : Int32)) (y := (1 : Int32)) (by decide)).2.2.2 (by decide) (by decide) ?_
        refine Go.iload (pc' := 154) C X170 at_152 rfl rfl ?_
        refine Go.bipush (z := (6 : Int32)) (pc' := 156) C X170 at_154 rfl rfl ?_
        refine Go.icmpYes (pc' := 167) C X170 at_156 (flt (x := (6 : Int32)) (y := (1 : Int32)) (by decide)).2.2.2 (by decide) (by decide) ?_
        have O181 : Ext Z.heap T170.heap := (Ext.keep O173 K170 (allS n_b165 all0))
        refine Go.newO (pc' := 170) C X170 (tw hw 79 rfl) (tw hw 80 rfl) (tw hw 81 rfl) rfl (by decide) (by decide) at_167 rfl ?_
        intro T180 h180 b180 X180 e180 g180 E180 A180 D180
        have n_b180 : Z.heap.size ≤ b180 := Nat.le_trans O181.1 (Nat.le_of_eq g180.symm)
        have z_b180 : h0.size ≤ b180 := Nat.le_trans (Nat.le_trans (Nat.le_trans (Nat.le_trans (Nat.le_trans (Nat.le_trans (Nat.le_trans (Nat.le_trans (Nat.le_trans (Nat.le_refl _) K151.1) E152.1) E154.1) K156.1) K159.1) E165.1) K167.1) K170.1) (Nat.le_of_eq g180.symm)
        have F180_source : Fld Z h180 b180 "com/example/tranche/tranche/journal/Journal" "source" "Ljava/lang/String;" .null := D180 (Or.inr (tw hw 116 rfl)) (ty := (.object "java/lang/String")) (by decide)
        have F180_events : Fld Z h180 b180 "com/example/tranche/tranche/journal/Journal" "events" "Ljava/util/List;" .null := D180 (Or.inr (tw hw 118 rfl)) (ty := (.object "java/util/List")) (by decide)
        have F180_incomplete : Fld Z h180 b180 "com/example/tranche/tranche/journal/Journal" "incomplete" "Z" (.int (0 : Int32)) := D180 (Or.inr (tw hw 120 rfl)) (ty := .boolean) (by decide)
        refine Go.dup (pc' := 171) C X180 at_170 rfl rfl ?_
        refine Go.aload (pc' := 173) C X180 at_171 rfl rfl rfl ?_
        refine Go.aload (pc' := 175) C X180 at_173 rfl rfl rfl ?_
        refine Go.iload (pc' := 177) C X180 at_175 rfl rfl ?_
        have c183 : Exa Z h180 b165 "java/util/ArrayList" := (Exa.ext E180 (Exa.keep c171 K170))
        have c184 : Fld Z h180 b165 "java/util/ArrayList" "elementData" "[Ljava/lang/Object;" (.ref w_170) := (Fld.ext E180 P170_1)
        have c185 : Fld Z h180 b165 "java/util/ArrayList" "size" "I" (.int (1 : Int32)) := (Fld.ext E180 P170_2)
        have c186 : Exa Z h180 w_170 "[Ljava/lang/Object;" := (Exa.ext E180 P170_4)
        have c187 : AL Z h180 w_170 kw_170 (.object "java/lang/Object") [(.ref b152), .null, .null, .null, .null, .null, .null, .null, .null, .null] := (AL.ext E180 P170_3)
        have c188 : Exa Z h180 b152 "com/example/tranche/tranche/journal/DefaultRateChange" := (Exa.ext E180 (Exa.keep c172 K170))
        have O189 : Ext Z.heap h180 := (Ext.trans O181 E180)
        refine Go.callI (y := (⟨"com/example/tranche/tranche/journal/Journal", "<init>", "(Ljava/lang/String;Ljava/util/List;Z)V"⟩ : MethodName)) (a := b180) (pc' := 180) C X180 rfl (tw hw 82 rfl) (tw hw 83 rfl) (by decide) (rm_jI1 l Z a0 hw b180 r_151 x b165 b152 w_170 kw_170 mr em h180 O189 A180 F180_source F180_events F180_incomplete c183 c184 c185 c186 c187 c188 SE hM n_b180) (tw hw 84 rfl) (tw hw 81 rfl) e180 (argsL := [(.ref r_151), (.ref b165), (.int x)]) (rest := [(.ref b180)]) (W := 1) rfl rfl pd_22 rfl (Nat.le_of_eq rfl) rfl (by decide) (by decide) (by decide) (by decide) rfl at_177 rfl ?_
        intro T182 v182 L182 X182 q182
        obtain ⟨r_182, rfl, N182q, K182, B182_0, P182_0, P182_1, P182_2⟩ := q182
        have N182 := Fr.app N170 N182q
        have n_r_182 : Z.heap.size ≤ r_182 := Nat.le_trans O189.1 B182_0
        have z_r_182 : h0.size ≤ r_182 := Nat.le_trans (Nat.le_trans (Nat.le_trans (Nat.le_trans (Nat.le_trans (Nat.le_trans (Nat.le_trans (Nat.le_trans (Nat.le_trans (Nat.le_trans (Nat.le_refl _) K151.1) E152.1) E154.1) K156.1) K159.1) E165.1) K167.1) K170.1) E180.1) B182_0
        refine Go.astore (Ls' := #[.val (.int p1), .val (.int p2), .val (.int p3), .val (.int p4), .val (.int (1 : Int32)), .val (.int x), .val (.ref r_151), .val (.ref b152), .val (.ref b165), .val (.ref b180)]) (pc' := 182) C X182 at_180 rfl rfl rfl ?_
        refine Go.aload (pc' := 184) C X182 at_182 rfl rfl rfl ?_
        refine Go.aload (pc' := 186) C X182 at_184 rfl rfl rfl ?_
        have c191 : Exa Z T182.heap b165 "java/util/ArrayList" := (Exa.keep c183 K182)
        have c192 : Exa Z T182.heap b152 "com/example/tranche/tranche/journal/DefaultRateChange" := (Exa.keep c188 K182)
        have ne193 : b165 ≠ b180 := Nat.ne_of_lt (Nat.lt_of_lt_of_le A165.lt (Nat.le_trans (Nat.le_trans (Nat.le_trans (Nat.le_refl _) K167.1) K170.1) (Nat.le_of_eq g180.symm)))
        have c194 : Fld Z T182.heap b165 "java/util/AbstractList" "modCount" "I" (.int ((0 : Int32) + (1 : Int32))) := (Fld.keep (Fld.ext E180 P170_0) K182 (ninS ne193 nin0))
        have c195 : Fld Z T182.heap b165 "java/util/ArrayList" "elementData" "[Ljava/lang/Object;" (.ref w_170) := (Fld.keep c184 K182 (ninS ne193 nin0))
        have c196 : Fld Z T182.heap b165 "java/util/ArrayList" "size" "I" (.int (1 : Int32)) := (Fld.keep c185 K182 (ninS ne193 nin0))
        have c197 : Exa Z T182.heap w_170 "[Ljava/lang/Object;" := (Exa.keep c186 K182)
        have ne198 : w_170 ≠ b180 := Nat.ne_of_lt (Nat.lt_of_lt_of_le P170_3.lt (Nat.le_trans (Nat.le_refl _) (Nat.le_of_eq g180.symm)))
        have c199 : AL Z T182.heap w_170 kw_170 (.object "java/lang/Object") [(.ref b152), .null, .null, .null, .null, .null, .null, .null, .null, .null] := (AL.keep c187 K182 (ninS ne198 nin0))
        have O200 : Ext Z.heap T182.heap := (Ext.keep O189 K182 (allS n_b180 all0))
        refine Go.callV (y := (⟨"java/util/ArrayList", "add", "(Ljava/lang/Object;)Z"⟩ : MethodName)) (z := (⟨"java/util/ArrayList", "add", "(Ljava/lang/Object;)Z"⟩ : MethodName)) (a := b165) (pc' := 189) C X182 (tw hw 121 rfl) (tw hw 122 rfl) (notFace_at C.2.1 (tw hw 124 rfl)) (tw hw 124 rfl) (tw hw 123 rfl) c191 (by decide) (rm_add1 l Z a0 hw b165 b152 w_170 kw_170 (((0 : Int32) + (1 : Int32))) T182.heap O200 c191 c192 c194 c195 c196 c197 c199 n_b165 n_w_170 p170_0) (tw hw 125 rfl) (tw hw 57 rfl) rfl (argsL := [(.ref b152)]) (rest := []) (W := 0) rfl rfl pd_23 rfl (Nat.le_of_eq rfl) rfl (by decide) (by decide) (by decide) (by decide) at_186 rfl ?_
        intro T190 v190 L190 X190 q190
        obtain ⟨rfl, N190q, K190, P190_0, P190_1, P190_2, P190_3⟩ := q190
        have N190 := Fr.app N182 N190q
        refine Go.pop (pc' := 190) C X190 at_189 rfl rfl ?_
        refine Go.aload (pc' := 192) C X190 at_190 rfl rfl rfl ?_
        have c202 : Fld Z T190.heap b180 "com/example/tranche/tranche/journal/Journal" "events" "Ljava/util/List;" (.ref r_182) := (Fld.keep P182_0 K190 (ninS (Ne.symm ne193) (ninS (Ne.symm ne198) nin0)))
        have c203 : Exa Z T190.heap r_182 "java/util/ImmutableCollections$List12" := (Exa.keep P182_1 K190)
        have ne204 : r_182 ≠ w_170 := (Nat.ne_of_gt (Nat.lt_of_lt_of_le P170_3.lt (Nat.le_trans (Nat.le_trans (Nat.le_refl _) E180.1) B182_0)))
        have ne205 : r_182 ≠ b165 := (Nat.ne_of_gt (Nat.lt_of_lt_of_le A165.lt (Nat.le_trans (Nat.le_trans (Nat.le_trans (Nat.le_trans (Nat.le_refl _) K167.1) K170.1) E180.1) B182_0)))
        have c206 : Fld Z T190.heap r_182 "java/util/ImmutableCollections$List12" "e1" "Ljava/lang/Object;" (.ref em) := (Fld.keep P182_2 K190 (ninS ne205 (ninS ne204 nin0)))
        have O207 : Ext Z.heap T190.heap := (Ext.keep O200 K190 (allS n_b165 (allS n_w_170 all0)))
        have c208 : Exa Z T190.heap b180 "com/example/tranche/tranche/journal/Journal" := (Exa.keep (Exa.keep A180 K182) K190)
        refine Go.callV (y := (⟨"com/example/tranche/tranche/journal/Journal", "nextLine", "()I"⟩ : MethodName)) (z := (⟨"com/example/tranche/tranche/journal/Journal", "nextLine", "()I"⟩ : MethodName)) (a := b180) (pc' := 195) C X190 (tw hw 150 rfl) (tw hw 151 rfl) (notFace_at C.2.1 (tw hw 153 rfl)) (tw hw 153 rfl) (tw hw 152 rfl) c208 (by decide) (rm_nl1 l Z a0 hw b180 r_182 em T190.heap O207 c202 c203 c206 SE) (tw hw 154 rfl) (tw hw 81 rfl) rfl (argsL := []) (rest := []) (W := 0) rfl rfl pd_18 rfl (Nat.le_of_eq rfl) rfl (by decide) (by decide) (by decide) (by decide) at_192 rfl ?_
        intro T201 v201 L201 X201 q201
        obtain ⟨rfl, rfl, e201⟩ := q201
        have N201 := Fr.app N190 (Fr.nil _)
        refine Go.iload (pc' := 197) C X201 at_195 rfl rfl ?_
        refine Go.iconst (z := (1 : Int32)) (pc' := 198) C X201 at_197 rfl rfl ?_
        refine Go.iadd (pc' := 199) C X201 at_198 rfl ?_
        rw [show ((1 : Int32) + (1 : Int32)) = (2 : Int32) from by decide]
        refine Go.icmpNo (pc' := 202) C X201 at_199 (teq (x := (2 : Int32)) (y := (2 : Int32)) (by decide)).2 rfl ?_
        refine Go.iconst (z := (1 : Int32)) (pc' := 203) C X201 at_202 rfl rfl ?_
        refine Go.goto (pc' := 207) C X201 at_203 (by decide) (by decide) ?_
        have K210 : Keep h0 T190.heap [] := ((((((((((((Keep.refl h0 []).trans K151 all0).ext E152).ext E154).trans K156 (allS (Or.inr z_b154) all0)).trans K159 (allS (Or.inr z_b152) all0)).ext E165).trans K167 (allS (Or.inr z_b165) all0)).trans K170 (allS (Or.inr z_b165) all0)).ext E180).trans K182 (allS (Or.inr z_b180) all0)).trans K190 (allS (Or.inr z_b165) (allS (Or.inr z_w_170) all0)))
        exact Go.retN C X201 rfl at_207 (by simp) (by rw [e201]; exact ⟨rfl, N201, K210⟩) (by decide) (by decide)
      by_cases hc47_211 : (p2 &&& (2 : Int32)) = (0 : Int32)
      · refine Go.ifYes (pc' := 54) C X156 at_47 ((if0 _ _).trans (teq (x := (p2 &&& (2 : Int32))) (y := (0 : Int32)) hc47_211).1) (by decide) (by decide) ?_
        refine Go.iconst (z := (0 : Int32)) (pc' := 55) C X156 at_54 rfl rfl ?_
        exact K55 _ _ X156 rfl N156 (0 : Int32) 
      · refine Go.ifNo (pc' := 50) C X156 at_47 ((if0 _ _).trans (feq (x := (p2 &&& (2 : Int32))) (y := (0 : Int32)) hc47_211).1) rfl ?_
        refine Go.iconst (z := (1 : Int32)) (pc' := 51) C X156 at_50 rfl rfl ?_
        refine Go.goto (pc' := 55) C X156 at_51 (by decide) (by decide) ?_
        exact K55 _ _ X156 rfl N156 (1 : Int32) 
    by_cases hc9_212 : (p2 &&& (1 : Int32)) = (0 : Int32)
    · refine Go.ifYes (pc' := 16) C X0 at_9 ((if0 _ _).trans (teq (x := (p2 &&& (1 : Int32))) (y := (0 : Int32)) hc9_212).1) (by decide) (by decide) ?_
      refine Go.iconst (z := (0 : Int32)) (pc' := 17) C X0 at_16 rfl rfl ?_
      exact K17 _ _ X0 e0 N0 (0 : Int32) 
    · refine Go.ifNo (pc' := 12) C X0 at_9 ((if0 _ _).trans (feq (x := (p2 &&& (1 : Int32))) (y := (0 : Int32)) hc9_212).1) rfl ?_
      refine Go.iconst (z := (1 : Int32)) (pc' := 13) C X0 at_12 rfl rfl ?_
      refine Go.goto (pc' := 17) C X0 at_13 (by decide) (by decide) ?_
      exact K17 _ _ X0 e0 N0 (1 : Int32) 
  · rw [hl]
    refine Go.iloadN (pc' := 7) C X0 at_6 rfl rfl ?_
    refine Go.iconst (z := (1 : Int32)) (pc' := 8) C X0 at_7 rfl rfl ?_
    refine Go.iand (pc' := 9) C X0 at_8 rfl ?_
    have K17 : ∀ (T213 : State) (L213 : List Loc), Stand p l e room_1 s m #[(.int p1), (.int p2), (.int p3), (.int p4)] below meth c T213 L213 0 0 → T213.heap = h0 → Fr Z.heap.size L213 → ∀ (x : Int32), Go p e below (Fn s room_1.cells room_1.slots (Q_law Z p1 p2 p3 p4 cP dc kd em el ea ke mr h0)) T213 (mkF m 17 #[.val (.int p1), .val (.int p2), .val (.int p3), .val (.int p4), .val (.int (2 : Int32)), .unset, .unset, .unset, .unset, .unset] [(.int x)]) := by
      intro T213 L213 X213 e213 N213 x
      refine Go.istore (Ls' := #[.val (.int p1), .val (.int p2), .val (.int p3), .val (.int p4), .val (.int (2 : Int32)), .val (.int x), .unset, .unset, .unset, .unset]) (pc' := 19) C X213 at_17 rfl rfl ?_
      refine Go.iloadN (pc' := 20) C X213 at_19 rfl rfl ?_
      refine Go.sipush (z := (255 : Int32)) (pc' := 23) C X213 at_20 rfl rfl ?_
      refine Go.iand (pc' := 24) C X213 at_23 rfl ?_
      refine Go.i2c (pc' := 25) C X213 at_24 rfl ?_
      refine Go.callS (y := (⟨"java/lang/String", "valueOf", "(C)Ljava/lang/String;"⟩ : MethodName)) (pc' := 28) C X213 (tw hw 0 rfl) (tw hw 1 rfl) (by decide) (rm_vc l Z a0 hw (((p3 &&& (255 : Int32)).toUInt32.toUInt16.toUInt32.toInt32)) cP h0 O0 SC (own_c255 p3) hP) (tw hw 3 rfl) (tw hw 2 rfl) e213 (argsL := [(.int ((p3 &&& (255 : Int32)).toUInt32.toUInt16.toUInt32.toInt32))]) (rest := []) (W := 0) rfl rfl pd_19 rfl (Nat.le_of_eq rfl) rfl (by decide) (by decide) (by decide) (by decide) at_25 rfl ?_
      intro T214 v214 L214 X214 q214
      obtain ⟨r_214, rfl, N214q, K214, B214_0, P214_0⟩ := q214
      have N214 := Fr.app N213 N214q
      have n_r_214 : Z.heap.size ≤ r_214 := Nat.le_trans O0.1 B214_0
      have z_r_214 : h0.size ≤ r_214 := Nat.le_trans (Nat.le_refl _) B214_0
      refine Go.astore (Ls' := #[.val (.int p1), .val (.int p2), .val (.int p3), .val (.int p4), .val (.int (2 : Int32)), .val (.int x), .val (.ref r_214), .unset, .unset, .unset]) (pc' := 30) C X214 at_28 rfl rfl rfl ?_
      have O216 : Ext Z.heap T214.heap := (Ext.keep O0 K214 all0)
      refine Go.newO (pc' := 33) C X214 (tw hw 26 rfl) (tw hw 27 rfl) (tw hw 28 rfl) rfl (by decide) (by decide) at_30 rfl ?_
      intro T215 h215 b215 X215 e215 g215 E215 A215 D215
      have n_b215 : Z.heap.size ≤ b215 := Nat.le_trans O216.1 (Nat.le_of_eq g215.symm)
      have z_b215 : h0.size ≤ b215 := Nat.le_trans (Nat.le_trans (Nat.le_refl _) K214.1) (Nat.le_of_eq g215.symm)
      have F215_entry : Fld Z h215 b215 "com/example/tranche/tranche/journal/DefaultRateChange" "entry" "Lcom/example/tranche/tranche/journal/Entry;" .null := D215 (Or.inr (tw hw 52 rfl)) (ty := (.object "com/example/tranche/tranche/journal/Entry")) (by decide)
      have F215_applies : Fld Z h215 b215 "com/example/tranche/tranche/journal/DefaultRateChange" "applies" "Z" (.int (0 : Int32)) := D215 (Or.inr (tw hw 54 rfl)) (ty := .boolean) (by decide)
      refine Go.dup (pc' := 34) C X215 at_33 rfl rfl ?_
      have O218 : Ext Z.heap h215 := (Ext.trans O216 E215)
      refine Go.newO (pc' := 37) C X215 (tw hw 29 rfl) (tw hw 30 rfl) (tw hw 31 rfl) e215 (by decide) (by decide) at_34 rfl ?_
      intro T217 h217 b217 X217 e217 g217 E217 A217 D217
      have n_b217 : Z.heap.size ≤ b217 := Nat.le_trans O218.1 (Nat.le_of_eq g217.symm)
      have z_b217 : h0.size ≤ b217 := Nat.le_trans (Nat.le_trans (Nat.le_trans (Nat.le_refl _) K214.1) E215.1) (Nat.le_of_eq g217.symm)
      have F217_line : Fld Z h217 b217 "com/example/tranche/tranche/journal/Entry" "line" "I" (.int (0 : Int32)) := D217 (Or.inr (tw hw 42 rfl)) (ty := .int) (by decide)
      have F217_date : Fld Z h217 b217 "com/example/tranche/tranche/journal/Entry" "date" "Ljava/time/LocalDate;" .null := D217 (Or.inr (tw hw 44 rfl)) (ty := (.object "java/time/LocalDate")) (by decide)
      have F217_recorded : Fld Z h217 b217 "com/example/tranche/tranche/journal/Entry" "recorded" "Ljava/time/LocalDate;" .null := D217 (Or.inr (tw hw 46 rfl)) (ty := (.object "java/time/LocalDate")) (by decide)
      refine Go.dup (pc' := 38) C X217 at_37 rfl rfl ?_
      refine Go.iloadN (pc' := 39) C X217 at_38 rfl rfl ?_
      refine Go.aconstNull (pc' := 40) C X217 at_39 rfl ?_
      refine Go.aconstNull (pc' := 41) C X217 at_40 rfl ?_
      have O220 : Ext Z.heap h217 := (Ext.trans O218 E217)
      refine Go.callI (y := (⟨"com/example/tranche/tranche/journal/Entry", "<init>", "(ILjava/time/LocalDate;Ljava/time/LocalDate;)V"⟩ : MethodName)) (a := b217) (pc' := 44) C X217 rfl (tw hw 32 rfl) (tw hw 33 rfl) (by decide) (rm_en l Z a0 hw b217 p4 h217 O220 A217 F217_line F217_date F217_recorded n_b217) (tw hw 34 rfl) (tw hw 31 rfl) e217 (argsL := [(.int p4), .null, .null]) (rest := [(.ref b217), (.ref b215), (.ref b215)]) (W := 3) rfl rfl pd_20 rfl (Nat.le_of_eq rfl) rfl (by decide) (by decide) (by decide) (by decide) rfl at_41 rfl ?_
      intro T219 v219 L219 X219 q219
      obtain ⟨rfl, N219q, K219⟩ := q219
      have N219 := Fr.app N214 N219q
      refine Go.iloadN (pc' := 45) C X219 at_44 rfl rfl ?_
      refine Go.iconst (z := (2 : Int32)) (pc' := 46) C X219 at_45 rfl rfl ?_
      refine Go.iand (pc' := 47) C X219 at_46 rfl ?_
      have K55 : ∀ (T221 : State) (L221 : List Loc), Stand p l e room_1 s m #[(.int p1), (.int p2), (.int p3), (.int p4)] below meth c T221 L221 4 10 → T221.heap = T219.heap → Fr Z.heap.size L221 → ∀ (y : Int32), Go p e below (Fn s room_1.cells room_1.slots (Q_law Z p1 p2 p3 p4 cP dc kd em el ea ke mr h0)) T221 (mkF m 55 #[.val (.int p1), .val (.int p2), .val (.int p3), .val (.int p4), .val (.int (2 : Int32)), .val (.int x), .val (.ref r_214), .unset, .unset, .unset] [(.int y), (.ref b217), (.ref b215), (.ref b215)]) := by
        intro T221 L221 X221 e221 N221 y
        have c223 : Exa Z T219.heap b215 "com/example/tranche/tranche/journal/DefaultRateChange" := (Exa.keep (Exa.ext E217 A215) K219)
        have ne224 : b215 ≠ b217 := Nat.ne_of_lt (Nat.lt_of_lt_of_le A215.lt (Nat.le_trans (Nat.le_refl _) (Nat.le_of_eq g217.symm)))
        have c225 : Fld Z T219.heap b215 "com/example/tranche/tranche/journal/DefaultRateChange" "entry" "Lcom/example/tranche/tranche/journal/Entry;" .null := (Fld.keep (Fld.ext E217 F215_entry) K219 (ninS ne224 nin0))
        have c226 : Fld Z T219.heap b215 "com/example/tranche/tranche/journal/DefaultRateChange" "applies" "Z" (.int (0 : Int32)) := (Fld.keep (Fld.ext E217 F215_applies) K219 (ninS ne224 nin0))
        have O227 : Ext Z.heap T219.heap := (Ext.keep O220 K219 (allS n_b217 all0))
        refine Go.callI (y := (⟨"com/example/tranche/tranche/journal/DefaultRateChange", "<init>", "(Lcom/example/tranche/tranche/journal/Entry;Z)V"⟩ : MethodName)) (a := b215) (pc' := 58) C X221 rfl (tw hw 47 rfl) (tw hw 48 rfl) (by decide) (rm_dr l Z a0 hw b215 b217 y T219.heap O227 c223 c225 c226 n_b215) (tw hw 49 rfl) (tw hw 28 rfl) e221 (argsL := [(.ref b217), (.int y)]) (rest := [(.ref b215)]) (W := 1) rfl rfl pd_21 rfl (Nat.le_of_eq rfl) rfl (by decide) (by decide) (by decide) (by decide) rfl at_55 rfl ?_
        intro T222 v222 L222 X222 q222
        obtain ⟨rfl, N222q, K222⟩ := q222
        have N222 := Fr.app N221 N222q
        refine Go.astore (Ls' := #[.val (.int p1), .val (.int p2), .val (.int p3), .val (.int p4), .val (.int (2 : Int32)), .val (.int x), .val (.ref r_214), .val (.ref b215), .unset, .unset]) (pc' := 60) C X222 at_58 rfl rfl rfl ?_
        have O229 : Ext Z.heap T222.heap := (Ext.keep O227 K222 (allS n_b215 all0))
        refine Go.newO (pc' := 63) C X222 (tw hw 55 rfl) (tw hw 56 rfl) (tw hw 57 rfl) rfl (by decide) (by decide) at_60 rfl ?_
        intro T228 h228 b228 X228 e228 g228 E228 A228 D228
        have n_b228 : Z.heap.size ≤ b228 := Nat.le_trans O229.1 (Nat.le_of_eq g228.symm)
        have z_b228 : h0.size ≤ b228 := Nat.le_trans (Nat.le_trans (Nat.le_trans (Nat.le_trans (Nat.le_trans (Nat.le_trans (Nat.le_refl _) K214.1) E215.1) E217.1) K219.1) K222.1) (Nat.le_of_eq g228.symm)
        have F228_modCount : Fld Z h228 b228 "java/util/AbstractList" "modCount" "I" (.int (0 : Int32)) := D228 (Or.inl (tw hw 75 rfl)) (ty := .int) (by decide)
        have F228_elementData : Fld Z h228 b228 "java/util/ArrayList" "elementData" "[Ljava/lang/Object;" .null := D228 (Or.inl (tw hw 78 rfl)) (ty := (.array (.object "java/lang/Object"))) (by decide)
        have F228_size : Fld Z h228 b228 "java/util/ArrayList" "size" "I" (.int (0 : Int32)) := D228 (Or.inl (tw hw 110 rfl)) (ty := .int) (by decide)
        refine Go.dup (pc' := 64) C X228 at_63 rfl rfl ?_
        have O231 : Ext Z.heap h228 := (Ext.trans O229 E228)
        refine Go.callI (y := (⟨"java/util/ArrayList", "<init>", "()V"⟩ : MethodName)) (a := b228) (pc' := 67) C X228 rfl (tw hw 58 rfl) (tw hw 59 rfl) (by decide) (rm_alI l Z a0 hw b228 dc h228 O231 A228 F228_modCount F228_elementData F228_size SD n_b228) (tw hw 60 rfl) (tw hw 57 rfl) e228 (argsL := []) (rest := [(.ref b228)]) (W := 1) rfl rfl pd_3 rfl (Nat.le_of_eq rfl) rfl (by decide) (by decide) (by decide) (by decide) rfl at_64 rfl ?_
        intro T230 v230 L230 X230 q230
        obtain ⟨rfl, N230q, K230, P230_0, P230_1, P230_2⟩ := q230
        have N230 := Fr.app N222 N230q
        refine Go.astore (Ls' := #[.val (.int p1), .val (.int p2), .val (.int p3), .val (.int p4), .val (.int (2 : Int32)), .val (.int x), .val (.ref r_214), .val (.ref b215), .val (.ref b228), .unset]) (pc' := 69) C X230 at_67 rfl rfl rfl ?_
        refine Go.iload (pc' := 71) C X230 at_69 rfl rfl ?_
        refine Go.ifNo (pc' := 74) C X230 at_71 ((if0 _ _).trans (tlt (x := (0 : Int32)) (y := (2 : Int32)) (by decide)).2.2.2) rfl ?_
        refine Go.aload (pc' := 76) C X230 at_74 rfl rfl rfl ?_
        refine Go.aload (pc' := 78) C X230 at_76 rfl rfl rfl ?_
        have c234 : Exa Z T230.heap b228 "java/util/ArrayList" := (Exa.keep A228 K230)
        have c235 : Exa Z T230.heap b215 "com/example/tranche/tranche/journal/DefaultRateChange" := (Exa.keep (Exa.ext E228 (Exa.keep c223 K222)) K230)
        have O236 : Ext Z.heap T230.heap := (Ext.keep O231 K230 (allS n_b228 all0))
        refine Go.callV (y := (⟨"java/util/ArrayList", "add", "(Ljava/lang/Object;)Z"⟩ : MethodName)) (z := (⟨"java/util/ArrayList", "add", "(Ljava/lang/Object;)Z"⟩ : MethodName)) (a := b228) (pc' := 81) C X230 (tw hw 121 rfl) (tw hw 122 rfl) (notFace_at C.2.1 (tw hw 124 rfl)) (tw hw 124 rfl) (tw hw 123 rfl) c234 (by decide) (rm_add0 l Z a0 hw b228 b215 dc kd ((0 : Int32)) T230.heap O236 c234 c235 P230_0 P230_1 P230_2 SD AD n_b228) (tw hw 125 rfl) (tw hw 57 rfl) rfl (argsL := [(.ref b215)]) (rest := []) (W := 0) rfl rfl pd_23 rfl (Nat.le_of_eq rfl) rfl (by decide) (by decide) (by decide) (by decide) at_78 rfl ?_
        intro T233 v233 L233 X233 q233
        obtain ⟨w_233, kw_233, rfl, N233q, K233, B233_0, P233_0, P233_1, P233_2, P233_3, P233_4, p233_0⟩ := q233
        have N233 := Fr.app N230 N233q
        have n_w_233 : Z.heap.size ≤ w_233 := Nat.le_trans O236.1 B233_0
        have z_w_233 : h0.size ≤ w_233 := Nat.le_trans (Nat.le_trans (Nat.le_trans (Nat.le_trans (Nat.le_trans (Nat.le_trans (Nat.le_trans (Nat.le_trans (Nat.le_refl _) K214.1) E215.1) E217.1) K219.1) K222.1) E228.1) K230.1) B233_0
        refine Go.pop (pc' := 82) C X233 at_81 rfl rfl ?_
        refine Go.iload (pc' := 84) C X233 at_82 rfl rfl ?_
        refine Go.iconst (z := (1 : Int32)) (pc' := 85) C X233 at_84 rfl rfl ?_
        refine Go.icmpNo (pc' := 88) C X233 at_85 (tlt (x := (1 : Int32)) (y := (2 : Int32)) (by decide)).2.2.2 rfl ?_
        refine Go.aload (pc' := 90) C X233 at_88 rfl rfl rfl ?_
        refine Go.aload (pc' := 92) C X233 at_90 rfl rfl rfl ?_
        have c239 : Exa Z T233.heap b228 "java/util/ArrayList" := (Exa.keep c234 K233)
        have c240 : Exa Z T233.heap b215 "com/example/tranche/tranche/journal/DefaultRateChange" := (Exa.keep c235 K233)
        have O241 : Ext Z.heap T233.heap := (Ext.keep O236 K233 (allS n_b228 all0))
        refine Go.callV (y := (⟨"java/util/ArrayList", "add", "(Ljava/lang/Object;)Z"⟩ : MethodName)) (z := (⟨"java/util/ArrayList", "add", "(Ljava/lang/Object;)Z"⟩ : MethodName)) (a := b228) (pc' := 95) C X233 (tw hw 121 rfl) (tw hw 122 rfl) (notFace_at C.2.1 (tw hw 124 rfl)) (tw hw 124 rfl) (tw hw 123 rfl) c239 (by decide) (rm_add1 l Z a0 hw b228 b215 w_233 kw_233 (((0 : Int32) + (1 : Int32))) T233.heap O241 c239 c240 P233_0 P233_1 P233_2 P233_4 P233_3 n_b228 n_w_233 p233_0) (tw hw 125 rfl) (tw hw 57 rfl) rfl (argsL := [(.ref b215)]) (rest := []) (W := 0) rfl rfl pd_23 rfl (Nat.le_of_eq rfl) rfl (by decide) (by decide) (by decide) (by decide) at_92 rfl ?_
        intro T238 v238 L238 X238 q238
        obtain ⟨rfl, N238q, K238, P238_0, P238_1, P238_2, P238_3⟩ := q238
        have N238 := Fr.app N233 N238q
        refine Go.pop (pc' := 96) C X238 at_95 rfl rfl ?_
        refine Go.iload (pc' := 98) C X238 at_96 rfl rfl ?_
        refine Go.iconst (z := (2 : Int32)) (pc' := 99) C X238 at_98 rfl rfl ?_
        refine Go.icmpYes (pc' := 110) C X238 at_99 (flt (x := (2 : Int32)) (y := (2 : Int32)) (by decide)).2.2.2 (by decide) (by decide) ?_
        refine Go.iload (pc' := 112) C X238 at_110 rfl rfl ?_
        refine Go.iconst (z := (3 : Int32)) (pc' := 113) C X238 at_112 rfl rfl ?_
        refine Go.icmpYes (pc' := 124) C X238 at_113 (flt (x := (3 : Int32)) (y := (2 : Int32)) (by decide)).2.2.2 (by decide) (by decide) ?_
        refine Go.iload (pc' := 126) C X238 at_124 rfl rfl ?_
        refine Go.iconst (z := (4 : Int32)) (pc' := 127) C X238 at_126 rfl rfl ?_
        refine Go.icmpYes (pc' := 138) C X238 at_127 (flt (x := (4 : Int32)) (y := (2 : Int32)) (by decide)).2.2.2 (by decide) (by decide) ?_
        refine Go.iload (pc' := 140) C X238 at_138 rfl rfl ?_
        refine Go.iconst (z := (5 : Int32)) (pc' := 141) C X238 at_140 rfl rfl ?_
        refine Go.icmpYes (pc' := 152) C X238 at_141 (flt (x := (5 : Int32)) (y := (2 : Int32)) (by decide)).2.2.2 (by decide) (by decide) ?_
        refine Go.iload (pc' := 154) C X238 at_152 rfl rfl ?_
        refine Go.bipush (z := (6 : Int32)) (pc' := 156) C X238 at_154 rfl rfl ?_
        refine Go.icmpYes (pc' := 167) C X238 at_156 (flt (x := (6 : Int32)) (y := (2 : Int32)) (by decide)).2.2.2 (by decide) (by decide) ?_
        have O248 : Ext Z.heap T238.heap := (Ext.keep O241 K238 (allS n_b228 (allS n_w_233 all0)))
        refine Go.newO (pc' := 170) C X238 (tw hw 79 rfl) (tw hw 80 rfl) (tw hw 81 rfl) rfl (by decide) (by decide) at_167 rfl ?_
        intro T247 h247 b247 X247 e247 g247 E247 A247 D247
        have n_b247 : Z.heap.size ≤ b247 := Nat.le_trans O248.1 (Nat.le_of_eq g247.symm)
        have z_b247 : h0.size ≤ b247 := Nat.le_trans (Nat.le_trans (Nat.le_trans (Nat.le_trans (Nat.le_trans (Nat.le_trans (Nat.le_trans (Nat.le_trans (Nat.le_trans (Nat.le_trans (Nat.le_refl _) K214.1) E215.1) E217.1) K219.1) K222.1) E228.1) K230.1) K233.1) K238.1) (Nat.le_of_eq g247.symm)
        have F247_source : Fld Z h247 b247 "com/example/tranche/tranche/journal/Journal" "source" "Ljava/lang/String;" .null := D247 (Or.inr (tw hw 116 rfl)) (ty := (.object "java/lang/String")) (by decide)
        have F247_events : Fld Z h247 b247 "com/example/tranche/tranche/journal/Journal" "events" "Ljava/util/List;" .null := D247 (Or.inr (tw hw 118 rfl)) (ty := (.object "java/util/List")) (by decide)
        have F247_incomplete : Fld Z h247 b247 "com/example/tranche/tranche/journal/Journal" "incomplete" "Z" (.int (0 : Int32)) := D247 (Or.inr (tw hw 120 rfl)) (ty := .boolean) (by decide)
        refine Go.dup (pc' := 171) C X247 at_170 rfl rfl ?_
        refine Go.aload (pc' := 173) C X247 at_171 rfl rfl rfl ?_
        refine Go.aload (pc' := 175) C X247 at_173 rfl rfl rfl ?_
        refine Go.iload (pc' := 177) C X247 at_175 rfl rfl ?_
        have c250 : Exa Z h247 b228 "java/util/ArrayList" := (Exa.ext E247 (Exa.keep c239 K238))
        have c251 : Fld Z h247 b228 "java/util/ArrayList" "elementData" "[Ljava/lang/Object;" (.ref w_233) := (Fld.ext E247 P238_1)
        have c252 : Fld Z h247 b228 "java/util/ArrayList" "size" "I" (.int (2 : Int32)) := (Fld.ext E247 P238_2)
        have c253 : Exa Z h247 w_233 "[Ljava/lang/Object;" := (Exa.ext E247 (Exa.keep P233_4 K238))
        have c254 : AL Z h247 w_233 kw_233 (.object "java/lang/Object") [(.ref b215), (.ref b215), .null, .null, .null, .null, .null, .null, .null, .null] := (AL.ext E247 P238_3)
        have c255 : Exa Z h247 b215 "com/example/tranche/tranche/journal/DefaultRateChange" := (Exa.ext E247 (Exa.keep c240 K238))
        have O256 : Ext Z.heap h247 := (Ext.trans O248 E247)
        refine Go.callI (y := (⟨"com/example/tranche/tranche/journal/Journal", "<init>", "(Ljava/lang/String;Ljava/util/List;Z)V"⟩ : MethodName)) (a := b247) (pc' := 180) C X247 rfl (tw hw 82 rfl) (tw hw 83 rfl) (by decide) (rm_jI2 l Z a0 hw b247 r_214 x b228 b215 w_233 kw_233 mr h247 O256 A247 F247_source F247_events F247_incomplete c250 c251 c252 c253 c254 c255 hM n_b247) (tw hw 84 rfl) (tw hw 81 rfl) e247 (argsL := [(.ref r_214), (.ref b228), (.int x)]) (rest := [(.ref b247)]) (W := 1) rfl rfl pd_22 rfl (Nat.le_of_eq rfl) rfl (by decide) (by decide) (by decide) (by decide) rfl at_177 rfl ?_
        intro T249 v249 L249 X249 q249
        obtain ⟨r_249, rfl, N249q, K249, B249_0, P249_0, P249_1, P249_2⟩ := q249
        have N249 := Fr.app N238 N249q
        have n_r_249 : Z.heap.size ≤ r_249 := Nat.le_trans O256.1 B249_0
        have z_r_249 : h0.size ≤ r_249 := Nat.le_trans (Nat.le_trans (Nat.le_trans (Nat.le_trans (Nat.le_trans (Nat.le_trans (Nat.le_trans (Nat.le_trans (Nat.le_trans (Nat.le_trans (Nat.le_trans (Nat.le_refl _) K214.1) E215.1) E217.1) K219.1) K222.1) E228.1) K230.1) K233.1) K238.1) E247.1) B249_0
        refine Go.astore (Ls' := #[.val (.int p1), .val (.int p2), .val (.int p3), .val (.int p4), .val (.int (2 : Int32)), .val (.int x), .val (.ref r_214), .val (.ref b215), .val (.ref b228), .val (.ref b247)]) (pc' := 182) C X249 at_180 rfl rfl rfl ?_
        refine Go.aload (pc' := 184) C X249 at_182 rfl rfl rfl ?_
        refine Go.aload (pc' := 186) C X249 at_184 rfl rfl rfl ?_
        have c258 : Exa Z T249.heap b228 "java/util/ArrayList" := (Exa.keep c250 K249)
        have c259 : Exa Z T249.heap b215 "com/example/tranche/tranche/journal/DefaultRateChange" := (Exa.keep c255 K249)
        have ne260 : b228 ≠ b247 := Nat.ne_of_lt (Nat.lt_of_lt_of_le A228.lt (Nat.le_trans (Nat.le_trans (Nat.le_trans (Nat.le_trans (Nat.le_refl _) K230.1) K233.1) K238.1) (Nat.le_of_eq g247.symm)))
        have c261 : Fld Z T249.heap b228 "java/util/AbstractList" "modCount" "I" (.int (((0 : Int32) + (1 : Int32)) + (1 : Int32))) := (Fld.keep (Fld.ext E247 P238_0) K249 (ninS ne260 nin0))
        have c262 : Fld Z T249.heap b228 "java/util/ArrayList" "elementData" "[Ljava/lang/Object;" (.ref w_233) := (Fld.keep c251 K249 (ninS ne260 nin0))
        have c263 : Fld Z T249.heap b228 "java/util/ArrayList" "size" "I" (.int (2 : Int32)) := (Fld.keep c252 K249 (ninS ne260 nin0))
        have c264 : Exa Z T249.heap w_233 "[Ljava/lang/Object;" := (Exa.keep c253 K249)
        have ne265 : w_233 ≠ b247 := Nat.ne_of_lt (Nat.lt_of_lt_of_le P233_3.lt (Nat.le_trans (Nat.le_trans (Nat.le_refl _) K238.1) (Nat.le_of_eq g247.symm)))
        have c266 : AL Z T249.heap w_233 kw_233 (.object "java/lang/Object") [(.ref b215), (.ref b215), .null, .null, .null, .null, .null, .null, .null, .null] := (AL.keep c254 K249 (ninS ne265 nin0))
        have O267 : Ext Z.heap T249.heap := (Ext.keep O256 K249 (allS n_b247 all0))
        refine Go.callV (y := (⟨"java/util/ArrayList", "add", "(Ljava/lang/Object;)Z"⟩ : MethodName)) (z := (⟨"java/util/ArrayList", "add", "(Ljava/lang/Object;)Z"⟩ : MethodName)) (a := b228) (pc' := 189) C X249 (tw hw 121 rfl) (tw hw 122 rfl) (notFace_at C.2.1 (tw hw 124 rfl)) (tw hw 124 rfl) (tw hw 123 rfl) c258 (by decide) (rm_add2 l Z a0 hw b228 b215 w_233 kw_233 ((((0 : Int32) + (1 : Int32)) + (1 : Int32))) T249.heap O267 c258 c259 c261 c262 c263 c264 c266 n_b228 n_w_233 p233_0) (tw hw 125 rfl) (tw hw 57 rfl) rfl (argsL := [(.ref b215)]) (rest := []) (W := 0) rfl rfl pd_23 rfl (Nat.le_of_eq rfl) rfl (by decide) (by decide) (by decide) (by decide) at_186 rfl ?_
        intro T257 v257 L257 X257 q257
        obtain ⟨rfl, N257q, K257, P257_0, P257_1, P257_2, P257_3⟩ := q257
        have N257 := Fr.app N249 N257q
        refine Go.pop (pc' := 190) C X257 at_189 rfl rfl ?_
        refine Go.aload (pc' := 192) C X257 at_190 rfl rfl rfl ?_
        have c269 : Fld Z T257.heap b247 "com/example/tranche/tranche/journal/Journal" "events" "Ljava/util/List;" (.ref r_249) := (Fld.keep P249_0 K257 (ninS (Ne.symm ne260) (ninS (Ne.symm ne265) nin0)))
        have c270 : Exa Z T257.heap r_249 "java/util/ImmutableCollections$List12" := (Exa.keep P249_1 K257)
        have ne271 : r_249 ≠ w_233 := (Nat.ne_of_gt (Nat.lt_of_lt_of_le P233_3.lt (Nat.le_trans (Nat.le_trans (Nat.le_trans (Nat.le_refl _) K238.1) E247.1) B249_0)))
        have ne272 : r_249 ≠ b228 := (Nat.ne_of_gt (Nat.lt_of_lt_of_le A228.lt (Nat.le_trans (Nat.le_trans (Nat.le_trans (Nat.le_trans (Nat.le_trans (Nat.le_refl _) K230.1) K233.1) K238.1) E247.1) B249_0)))
        have c273 : Fld Z T257.heap r_249 "java/util/ImmutableCollections$List12" "e1" "Ljava/lang/Object;" (.ref b215) := (Fld.keep P249_2 K257 (ninS ne272 (ninS ne271 nin0)))
        have c274 : Exa Z T257.heap b215 "com/example/tranche/tranche/journal/DefaultRateChange" := (Exa.keep c259 K257)
        have O275 : Ext Z.heap T257.heap := (Ext.keep O267 K257 (allS n_b228 (allS n_w_233 all0)))
        have c276 : Exa Z T257.heap b247 "com/example/tranche/tranche/journal/Journal" := (Exa.keep (Exa.keep A247 K249) K257)
        refine Go.callV (y := (⟨"com/example/tranche/tranche/journal/Journal", "nextLine", "()I"⟩ : MethodName)) (z := (⟨"com/example/tranche/tranche/journal/Journal", "nextLine", "()I"⟩ : MethodName)) (a := b247) (pc' := 195) C X257 (tw hw 150 rfl) (tw hw 151 rfl) (notFace_at C.2.1 (tw hw 153 rfl)) (tw hw 153 rfl) (tw hw 152 rfl) c276 (by decide) (rm_nl2 l Z a0 hw b247 r_249 em b215 T257.heap O275 c269 c270 c273 SE c274 Ee) (tw hw 154 rfl) (tw hw 81 rfl) rfl (argsL := []) (rest := []) (W := 0) rfl rfl pd_18 rfl (Nat.le_of_eq rfl) rfl (by decide) (by decide) (by decide) (by decide) at_192 rfl ?_
        intro T268 v268 L268 X268 q268
        obtain ⟨rfl, rfl, e268⟩ := q268
        have N268 := Fr.app N257 (Fr.nil _)
        refine Go.iload (pc' := 197) C X268 at_195 rfl rfl ?_
        refine Go.iconst (z := (1 : Int32)) (pc' := 198) C X268 at_197 rfl rfl ?_
        refine Go.iadd (pc' := 199) C X268 at_198 rfl ?_
        rw [show ((2 : Int32) + (1 : Int32)) = (3 : Int32) from by decide]
        refine Go.icmpNo (pc' := 202) C X268 at_199 (teq (x := (3 : Int32)) (y := (3 : Int32)) (by decide)).2 rfl ?_
        refine Go.iconst (z := (1 : Int32)) (pc' := 203) C X268 at_202 rfl rfl ?_
        refine Go.goto (pc' := 207) C X268 at_203 (by decide) (by decide) ?_
        have K278 : Keep h0 T257.heap [] := (((((((((((((Keep.refl h0 []).trans K214 all0).ext E215).ext E217).trans K219 (allS (Or.inr z_b217) all0)).trans K222 (allS (Or.inr z_b215) all0)).ext E228).trans K230 (allS (Or.inr z_b228) all0)).trans K233 (allS (Or.inr z_b228) all0)).trans K238 (allS (Or.inr z_b228) (allS (Or.inr z_w_233) all0))).ext E247).trans K249 (allS (Or.inr z_b247) all0)).trans K257 (allS (Or.inr z_b228) (allS (Or.inr z_w_233) all0)))
        exact Go.retN C X268 rfl at_207 (by simp) (by rw [e268]; exact ⟨rfl, N268, K278⟩) (by decide) (by decide)
      by_cases hc47_279 : (p2 &&& (2 : Int32)) = (0 : Int32)
      · refine Go.ifYes (pc' := 54) C X219 at_47 ((if0 _ _).trans (teq (x := (p2 &&& (2 : Int32))) (y := (0 : Int32)) hc47_279).1) (by decide) (by decide) ?_
        refine Go.iconst (z := (0 : Int32)) (pc' := 55) C X219 at_54 rfl rfl ?_
        exact K55 _ _ X219 rfl N219 (0 : Int32) 
      · refine Go.ifNo (pc' := 50) C X219 at_47 ((if0 _ _).trans (feq (x := (p2 &&& (2 : Int32))) (y := (0 : Int32)) hc47_279).1) rfl ?_
        refine Go.iconst (z := (1 : Int32)) (pc' := 51) C X219 at_50 rfl rfl ?_
        refine Go.goto (pc' := 55) C X219 at_51 (by decide) (by decide) ?_
        exact K55 _ _ X219 rfl N219 (1 : Int32) 
    by_cases hc9_280 : (p2 &&& (1 : Int32)) = (0 : Int32)
    · refine Go.ifYes (pc' := 16) C X0 at_9 ((if0 _ _).trans (teq (x := (p2 &&& (1 : Int32))) (y := (0 : Int32)) hc9_280).1) (by decide) (by decide) ?_
      refine Go.iconst (z := (0 : Int32)) (pc' := 17) C X0 at_16 rfl rfl ?_
      exact K17 _ _ X0 e0 N0 (0 : Int32) 
    · refine Go.ifNo (pc' := 12) C X0 at_9 ((if0 _ _).trans (feq (x := (p2 &&& (1 : Int32))) (y := (0 : Int32)) hc9_280).1) rfl ?_
      refine Go.iconst (z := (1 : Int32)) (pc' := 13) C X0 at_12 rfl rfl ?_
      refine Go.goto (pc' := 17) C X0 at_13 (by decide) (by decide) ?_
      exact K17 _ _ X0 e0 N0 (1 : Int32) 
  · rw [hl]
    refine Go.iloadN (pc' := 7) C X0 at_6 rfl rfl ?_
    refine Go.iconst (z := (1 : Int32)) (pc' := 8) C X0 at_7 rfl rfl ?_
    refine Go.iand (pc' := 9) C X0 at_8 rfl ?_
    have K17 : ∀ (T281 : State) (L281 : List Loc), Stand p l e room_1 s m #[(.int p1), (.int p2), (.int p3), (.int p4)] below meth c T281 L281 0 0 → T281.heap = h0 → Fr Z.heap.size L281 → ∀ (x : Int32), Go p e below (Fn s room_1.cells room_1.slots (Q_law Z p1 p2 p3 p4 cP dc kd em el ea ke mr h0)) T281 (mkF m 17 #[.val (.int p1), .val (.int p2), .val (.int p3), .val (.int p4), .val (.int (3 : Int32)), .unset, .unset, .unset, .unset, .unset] [(.int x)]) := by
      intro T281 L281 X281 e281 N281 x
      refine Go.istore (Ls' := #[.val (.int p1), .val (.int p2), .val (.int p3), .val (.int p4), .val (.int (3 : Int32)), .val (.int x), .unset, .unset, .unset, .unset]) (pc' := 19) C X281 at_17 rfl rfl ?_
      refine Go.iloadN (pc' := 20) C X281 at_19 rfl rfl ?_
      refine Go.sipush (z := (255 : Int32)) (pc' := 23) C X281 at_20 rfl rfl ?_
      refine Go.iand (pc' := 24) C X281 at_23 rfl ?_
      refine Go.i2c (pc' := 25) C X281 at_24 rfl ?_
      refine Go.callS (y := (⟨"java/lang/String", "valueOf", "(C)Ljava/lang/String;"⟩ : MethodName)) (pc' := 28) C X281 (tw hw 0 rfl) (tw hw 1 rfl) (by decide) (rm_vc l Z a0 hw (((p3 &&& (255 : Int32)).toUInt32.toUInt16.toUInt32.toInt32)) cP h0 O0 SC (own_c255 p3) hP) (tw hw 3 rfl) (tw hw 2 rfl) e281 (argsL := [(.int ((p3 &&& (255 : Int32)).toUInt32.toUInt16.toUInt32.toInt32))]) (rest := []) (W := 0) rfl rfl pd_19 rfl (Nat.le_of_eq rfl) rfl (by decide) (by decide) (by decide) (by decide) at_25 rfl ?_
      intro T282 v282 L282 X282 q282
      obtain ⟨r_282, rfl, N282q, K282, B282_0, P282_0⟩ := q282
      have N282 := Fr.app N281 N282q
      have n_r_282 : Z.heap.size ≤ r_282 := Nat.le_trans O0.1 B282_0
      have z_r_282 : h0.size ≤ r_282 := Nat.le_trans (Nat.le_refl _) B282_0
      refine Go.astore (Ls' := #[.val (.int p1), .val (.int p2), .val (.int p3), .val (.int p4), .val (.int (3 : Int32)), .val (.int x), .val (.ref r_282), .unset, .unset, .unset]) (pc' := 30) C X282 at_28 rfl rfl rfl ?_
      have O284 : Ext Z.heap T282.heap := (Ext.keep O0 K282 all0)
      refine Go.newO (pc' := 33) C X282 (tw hw 26 rfl) (tw hw 27 rfl) (tw hw 28 rfl) rfl (by decide) (by decide) at_30 rfl ?_
      intro T283 h283 b283 X283 e283 g283 E283 A283 D283
      have n_b283 : Z.heap.size ≤ b283 := Nat.le_trans O284.1 (Nat.le_of_eq g283.symm)
      have z_b283 : h0.size ≤ b283 := Nat.le_trans (Nat.le_trans (Nat.le_refl _) K282.1) (Nat.le_of_eq g283.symm)
      have F283_entry : Fld Z h283 b283 "com/example/tranche/tranche/journal/DefaultRateChange" "entry" "Lcom/example/tranche/tranche/journal/Entry;" .null := D283 (Or.inr (tw hw 52 rfl)) (ty := (.object "com/example/tranche/tranche/journal/Entry")) (by decide)
      have F283_applies : Fld Z h283 b283 "com/example/tranche/tranche/journal/DefaultRateChange" "applies" "Z" (.int (0 : Int32)) := D283 (Or.inr (tw hw 54 rfl)) (ty := .boolean) (by decide)
      refine Go.dup (pc' := 34) C X283 at_33 rfl rfl ?_
      have O286 : Ext Z.heap h283 := (Ext.trans O284 E283)
      refine Go.newO (pc' := 37) C X283 (tw hw 29 rfl) (tw hw 30 rfl) (tw hw 31 rfl) e283 (by decide) (by decide) at_34 rfl ?_
      intro T285 h285 b285 X285 e285 g285 E285 A285 D285
      have n_b285 : Z.heap.size ≤ b285 := Nat.le_trans O286.1 (Nat.le_of_eq g285.symm)
      have z_b285 : h0.size ≤ b285 := Nat.le_trans (Nat.le_trans (Nat.le_trans (Nat.le_refl _) K282.1) E283.1) (Nat.le_of_eq g285.symm)
      have F285_line : Fld Z h285 b285 "com/example/tranche/tranche/journal/Entry" "line" "I" (.int (0 : Int32)) := D285 (Or.inr (tw hw 42 rfl)) (ty := .int) (by decide)
      have F285_date : Fld Z h285 b285 "com/example/tranche/tranche/journal/Entry" "date" "Ljava/time/LocalDate;" .null := D285 (Or.inr (tw hw 44 rfl)) (ty := (.object "java/time/LocalDate")) (by decide)
      have F285_recorded : Fld Z h285 b285 "com/example/tranche/tranche/journal/Entry" "recorded" "Ljava/time/LocalDate;" .null := D285 (Or.inr (tw hw 46 rfl)) (ty := (.object "java/time/LocalDate")) (by decide)
      refine Go.dup (pc' := 38) C X285 at_37 rfl rfl ?_
      refine Go.iloadN (pc' := 39) C X285 at_38 rfl rfl ?_
      refine Go.aconstNull (pc' := 40) C X285 at_39 rfl ?_
      refine Go.aconstNull (pc' := 41) C X285 at_40 rfl ?_
      have O288 : Ext Z.heap h285 := (Ext.trans O286 E285)
      refine Go.callI (y := (⟨"com/example/tranche/tranche/journal/Entry", "<init>", "(ILjava/time/LocalDate;Ljava/time/LocalDate;)V"⟩ : MethodName)) (a := b285) (pc' := 44) C X285 rfl (tw hw 32 rfl) (tw hw 33 rfl) (by decide) (rm_en l Z a0 hw b285 p4 h285 O288 A285 F285_line F285_date F285_recorded n_b285) (tw hw 34 rfl) (tw hw 31 rfl) e285 (argsL := [(.int p4), .null, .null]) (rest := [(.ref b285), (.ref b283), (.ref b283)]) (W := 3) rfl rfl pd_20 rfl (Nat.le_of_eq rfl) rfl (by decide) (by decide) (by decide) (by decide) rfl at_41 rfl ?_
      intro T287 v287 L287 X287 q287
      obtain ⟨rfl, N287q, K287⟩ := q287
      have N287 := Fr.app N282 N287q
      refine Go.iloadN (pc' := 45) C X287 at_44 rfl rfl ?_
      refine Go.iconst (z := (2 : Int32)) (pc' := 46) C X287 at_45 rfl rfl ?_
      refine Go.iand (pc' := 47) C X287 at_46 rfl ?_
      have K55 : ∀ (T289 : State) (L289 : List Loc), Stand p l e room_1 s m #[(.int p1), (.int p2), (.int p3), (.int p4)] below meth c T289 L289 4 10 → T289.heap = T287.heap → Fr Z.heap.size L289 → ∀ (y : Int32), Go p e below (Fn s room_1.cells room_1.slots (Q_law Z p1 p2 p3 p4 cP dc kd em el ea ke mr h0)) T289 (mkF m 55 #[.val (.int p1), .val (.int p2), .val (.int p3), .val (.int p4), .val (.int (3 : Int32)), .val (.int x), .val (.ref r_282), .unset, .unset, .unset] [(.int y), (.ref b285), (.ref b283), (.ref b283)]) := by
        intro T289 L289 X289 e289 N289 y
        have c291 : Exa Z T287.heap b283 "com/example/tranche/tranche/journal/DefaultRateChange" := (Exa.keep (Exa.ext E285 A283) K287)
        have ne292 : b283 ≠ b285 := Nat.ne_of_lt (Nat.lt_of_lt_of_le A283.lt (Nat.le_trans (Nat.le_refl _) (Nat.le_of_eq g285.symm)))
        have c293 : Fld Z T287.heap b283 "com/example/tranche/tranche/journal/DefaultRateChange" "entry" "Lcom/example/tranche/tranche/journal/Entry;" .null := (Fld.keep (Fld.ext E285 F283_entry) K287 (ninS ne292 nin0))
        have c294 : Fld Z T287.heap b283 "com/example/tranche/tranche/journal/DefaultRateChange" "applies" "Z" (.int (0 : Int32)) := (Fld.keep (Fld.ext E285 F283_applies) K287 (ninS ne292 nin0))
        have O295 : Ext Z.heap T287.heap := (Ext.keep O288 K287 (allS n_b285 all0))
        refine Go.callI (y := (⟨"com/example/tranche/tranche/journal/DefaultRateChange", "<init>", "(Lcom/example/tranche/tranche/journal/Entry;Z)V"⟩ : MethodName)) (a := b283) (pc' := 58) C X289 rfl (tw hw 47 rfl) (tw hw 48 rfl) (by decide) (rm_dr l Z a0 hw b283 b285 y T287.heap O295 c291 c293 c294 n_b283) (tw hw 49 rfl) (tw hw 28 rfl) e289 (argsL := [(.ref b285), (.int y)]) (rest := [(.ref b283)]) (W := 1) rfl rfl pd_21 rfl (Nat.le_of_eq rfl) rfl (by decide) (by decide) (by decide) (by decide) rfl at_55 rfl ?_
        intro T290 v290 L290 X290 q290
        obtain ⟨rfl, N290q, K290⟩ := q290
        have N290 := Fr.app N289 N290q
        refine Go.astore (Ls' := #[.val (.int p1), .val (.int p2), .val (.int p3), .val (.int p4), .val (.int (3 : Int32)), .val (.int x), .val (.ref r_282), .val (.ref b283), .unset, .unset]) (pc' := 60) C X290 at_58 rfl rfl rfl ?_
        have O297 : Ext Z.heap T290.heap := (Ext.keep O295 K290 (allS n_b283 all0))
        refine Go.newO (pc' := 63) C X290 (tw hw 55 rfl) (tw hw 56 rfl) (tw hw 57 rfl) rfl (by decide) (by decide) at_60 rfl ?_
        intro T296 h296 b296 X296 e296 g296 E296 A296 D296
        have n_b296 : Z.heap.size ≤ b296 := Nat.le_trans O297.1 (Nat.le_of_eq g296.symm)
        have z_b296 : h0.size ≤ b296 := Nat.le_trans (Nat.le_trans (Nat.le_trans (Nat.le_trans (Nat.le_trans (Nat.le_trans (Nat.le_refl _) K282.1) E283.1) E285.1) K287.1) K290.1) (Nat.le_of_eq g296.symm)
        have F296_modCount : Fld Z h296 b296 "java/util/AbstractList" "modCount" "I" (.int (0 : Int32)) := D296 (Or.inl (tw hw 75 rfl)) (ty := .int) (by decide)
        have F296_elementData : Fld Z h296 b296 "java/util/ArrayList" "elementData" "[Ljava/lang/Object;" .null := D296 (Or.inl (tw hw 78 rfl)) (ty := (.array (.object "java/lang/Object"))) (by decide)
        have F296_size : Fld Z h296 b296 "java/util/ArrayList" "size" "I" (.int (0 : Int32)) := D296 (Or.inl (tw hw 110 rfl)) (ty := .int) (by decide)
        refine Go.dup (pc' := 64) C X296 at_63 rfl rfl ?_
        have O299 : Ext Z.heap h296 := (Ext.trans O297 E296)
        refine Go.callI (y := (⟨"java/util/ArrayList", "<init>", "()V"⟩ : MethodName)) (a := b296) (pc' := 67) C X296 rfl (tw hw 58 rfl) (tw hw 59 rfl) (by decide) (rm_alI l Z a0 hw b296 dc h296 O299 A296 F296_modCount F296_elementData F296_size SD n_b296) (tw hw 60 rfl) (tw hw 57 rfl) e296 (argsL := []) (rest := [(.ref b296)]) (W := 1) rfl rfl pd_3 rfl (Nat.le_of_eq rfl) rfl (by decide) (by decide) (by decide) (by decide) rfl at_64 rfl ?_
        intro T298 v298 L298 X298 q298
        obtain ⟨rfl, N298q, K298, P298_0, P298_1, P298_2⟩ := q298
        have N298 := Fr.app N290 N298q
        refine Go.astore (Ls' := #[.val (.int p1), .val (.int p2), .val (.int p3), .val (.int p4), .val (.int (3 : Int32)), .val (.int x), .val (.ref r_282), .val (.ref b283), .val (.ref b296), .unset]) (pc' := 69) C X298 at_67 rfl rfl rfl ?_
        refine Go.iload (pc' := 71) C X298 at_69 rfl rfl ?_
        refine Go.ifNo (pc' := 74) C X298 at_71 ((if0 _ _).trans (tlt (x := (0 : Int32)) (y := (3 : Int32)) (by decide)).2.2.2) rfl ?_
        refine Go.aload (pc' := 76) C X298 at_74 rfl rfl rfl ?_
        refine Go.aload (pc' := 78) C X298 at_76 rfl rfl rfl ?_
        have c302 : Exa Z T298.heap b296 "java/util/ArrayList" := (Exa.keep A296 K298)
        have c303 : Exa Z T298.heap b283 "com/example/tranche/tranche/journal/DefaultRateChange" := (Exa.keep (Exa.ext E296 (Exa.keep c291 K290)) K298)
        have O304 : Ext Z.heap T298.heap := (Ext.keep O299 K298 (allS n_b296 all0))
        refine Go.callV (y := (⟨"java/util/ArrayList", "add", "(Ljava/lang/Object;)Z"⟩ : MethodName)) (z := (⟨"java/util/ArrayList", "add", "(Ljava/lang/Object;)Z"⟩ : MethodName)) (a := b296) (pc' := 81) C X298 (tw hw 121 rfl) (tw hw 122 rfl) (notFace_at C.2.1 (tw hw 124 rfl)) (tw hw 124 rfl) (tw hw 123 rfl) c302 (by decide) (rm_add0 l Z a0 hw b296 b283 dc kd ((0 : Int32)) T298.heap O304 c302 c303 P298_0 P298_1 P298_2 SD AD n_b296) (tw hw 125 rfl) (tw hw 57 rfl) rfl (argsL := [(.ref b283)]) (rest := []) (W := 0) rfl rfl pd_23 rfl (Nat.le_of_eq rfl) rfl (by decide) (by decide) (by decide) (by decide) at_78 rfl ?_
        intro T301 v301 L301 X301 q301
        obtain ⟨w_301, kw_301, rfl, N301q, K301, B301_0, P301_0, P301_1, P301_2, P301_3, P301_4, p301_0⟩ := q301
        have N301 := Fr.app N298 N301q
        have n_w_301 : Z.heap.size ≤ w_301 := Nat.le_trans O304.1 B301_0
        have z_w_301 : h0.size ≤ w_301 := Nat.le_trans (Nat.le_trans (Nat.le_trans (Nat.le_trans (Nat.le_trans (Nat.le_trans (Nat.le_trans (Nat.le_trans (Nat.le_refl _) K282.1) E283.1) E285.1) K287.1) K290.1) E296.1) K298.1) B301_0
        refine Go.pop (pc' := 82) C X301 at_81 rfl rfl ?_
        refine Go.iload (pc' := 84) C X301 at_82 rfl rfl ?_
        refine Go.iconst (z := (1 : Int32)) (pc' := 85) C X301 at_84 rfl rfl ?_
        refine Go.icmpNo (pc' := 88) C X301 at_85 (tlt (x := (1 : Int32)) (y := (3 : Int32)) (by decide)).2.2.2 rfl ?_
        refine Go.aload (pc' := 90) C X301 at_88 rfl rfl rfl ?_
        refine Go.aload (pc' := 92) C X301 at_90 rfl rfl rfl ?_
        have c307 : Exa Z T301.heap b296 "java/util/ArrayList" := (Exa.keep c302 K301)
        have c308 : Exa Z T301.heap b283 "com/example/tranche/tranche/journal/DefaultRateChange" := (Exa.keep c303 K301)
        have O309 : Ext Z.heap T301.heap := (Ext.keep O304 K301 (allS n_b296 all0))
        refine Go.callV (y := (⟨"java/util/ArrayList", "add", "(Ljava/lang/Object;)Z"⟩ : MethodName)) (z := (⟨"java/util/ArrayList", "add", "(Ljava/lang/Object;)Z"⟩ : MethodName)) (a := b296) (pc' := 95) C X301 (tw hw 121 rfl) (tw hw 122 rfl) (notFace_at C.2.1 (tw hw 124 rfl)) (tw hw 124 rfl) (tw hw 123 rfl) c307 (by decide) (rm_add1 l Z a0 hw b296 b283 w_301 kw_301 (((0 : Int32) + (1 : Int32))) T301.heap O309 c307 c308 P301_0 P301_1 P301_2 P301_4 P301_3 n_b296 n_w_301 p301_0) (tw hw 125 rfl) (tw hw 57 rfl) rfl (argsL := [(.ref b283)]) (rest := []) (W := 0) rfl rfl pd_23 rfl (Nat.le_of_eq rfl) rfl (by decide) (by decide) (by decide) (by decide) at_92 rfl ?_
        intro T306 v306 L306 X306 q306
        obtain ⟨rfl, N306q, K306, P306_0, P306_1, P306_2, P306_3⟩ := q306
        have N306 := Fr.app N301 N306q
        refine Go.pop (pc' := 96) C X306 at_95 rfl rfl ?_
        refine Go.iload (pc' := 98) C X306 at_96 rfl rfl ?_
        refine Go.iconst (z := (2 : Int32)) (pc' := 99) C X306 at_98 rfl rfl ?_
        refine Go.icmpNo (pc' := 102) C X306 at_99 (tlt (x := (2 : Int32)) (y := (3 : Int32)) (by decide)).2.2.2 rfl ?_
        refine Go.aload (pc' := 104) C X306 at_102 rfl rfl rfl ?_
        refine Go.aload (pc' := 106) C X306 at_104 rfl rfl rfl ?_
        have c312 : Exa Z T306.heap b296 "java/util/ArrayList" := (Exa.keep c307 K306)
        have c313 : Exa Z T306.heap b283 "com/example/tranche/tranche/journal/DefaultRateChange" := (Exa.keep c308 K306)
        have c314 : Exa Z T306.heap w_301 "[Ljava/lang/Object;" := (Exa.keep P301_4 K306)
        have O315 : Ext Z.heap T306.heap := (Ext.keep O309 K306 (allS n_b296 (allS n_w_301 all0)))
        refine Go.callV (y := (⟨"java/util/ArrayList", "add", "(Ljava/lang/Object;)Z"⟩ : MethodName)) (z := (⟨"java/util/ArrayList", "add", "(Ljava/lang/Object;)Z"⟩ : MethodName)) (a := b296) (pc' := 109) C X306 (tw hw 121 rfl) (tw hw 122 rfl) (notFace_at C.2.1 (tw hw 124 rfl)) (tw hw 124 rfl) (tw hw 123 rfl) c312 (by decide) (rm_add2 l Z a0 hw b296 b283 w_301 kw_301 ((((0 : Int32) + (1 : Int32)) + (1 : Int32))) T306.heap O315 c312 c313 P306_0 P306_1 P306_2 c314 P306_3 n_b296 n_w_301 p301_0) (tw hw 125 rfl) (tw hw 57 rfl) rfl (argsL := [(.ref b283)]) (rest := []) (W := 0) rfl rfl pd_23 rfl (Nat.le_of_eq rfl) rfl (by decide) (by decide) (by decide) (by decide) at_106 rfl ?_
        intro T311 v311 L311 X311 q311
        obtain ⟨rfl, N311q, K311, P311_0, P311_1, P311_2, P311_3⟩ := q311
        have N311 := Fr.app N306 N311q
        refine Go.pop (pc' := 110) C X311 at_109 rfl rfl ?_
        refine Go.iload (pc' := 112) C X311 at_110 rfl rfl ?_
        refine Go.iconst (z := (3 : Int32)) (pc' := 113) C X311 at_112 rfl rfl ?_
        refine Go.icmpYes (pc' := 124) C X311 at_113 (flt (x := (3 : Int32)) (y := (3 : Int32)) (by decide)).2.2.2 (by decide) (by decide) ?_
        refine Go.iload (pc' := 126) C X311 at_124 rfl rfl ?_
        refine Go.iconst (z := (4 : Int32)) (pc' := 127) C X311 at_126 rfl rfl ?_
        refine Go.icmpYes (pc' := 138) C X311 at_127 (flt (x := (4 : Int32)) (y := (3 : Int32)) (by decide)).2.2.2 (by decide) (by decide) ?_
        refine Go.iload (pc' := 140) C X311 at_138 rfl rfl ?_
        refine Go.iconst (z := (5 : Int32)) (pc' := 141) C X311 at_140 rfl rfl ?_
        refine Go.icmpYes (pc' := 152) C X311 at_141 (flt (x := (5 : Int32)) (y := (3 : Int32)) (by decide)).2.2.2 (by decide) (by decide) ?_
        refine Go.iload (pc' := 154) C X311 at_152 rfl rfl ?_
        refine Go.bipush (z := (6 : Int32)) (pc' := 156) C X311 at_154 rfl rfl ?_
        refine Go.icmpYes (pc' := 167) C X311 at_156 (flt (x := (6 : Int32)) (y := (3 : Int32)) (by decide)).2.2.2 (by decide) (by decide) ?_
        have O321 : Ext Z.heap T311.heap := (Ext.keep O315 K311 (allS n_b296 (allS n_w_301 all0)))
        refine Go.newO (pc' := 170) C X311 (tw hw 79 rfl) (tw hw 80 rfl) (tw hw 81 rfl) rfl (by decide) (by decide) at_167 rfl ?_
        intro T320 h320 b320 X320 e320 g320 E320 A320 D320
        have n_b320 : Z.heap.size ≤ b320 := Nat.le_trans O321.1 (Nat.le_of_eq g320.symm)
        have z_b320 : h0.size ≤ b320 := Nat.le_trans (Nat.le_trans (Nat.le_trans (Nat.le_trans (Nat.le_trans (Nat.le_trans (Nat.le_trans (Nat.le_trans (Nat.le_trans (Nat.le_trans (Nat.le_trans (Nat.le_refl _) K282.1) E283.1) E285.1) K287.1) K290.1) E296.1) K298.1) K301.1) K306.1) K311.1) (Nat.le_of_eq g320.symm)
        have F320_source : Fld Z h320 b320 "com/example/tranche/tranche/journal/Journal" "source" "Ljava/lang/String;" .null := D320 (Or.inr (tw hw 116 rfl)) (ty := (.object "java/lang/String")) (by decide)
        have F320_events : Fld Z h320 b320 "com/example/tranche/tranche/journal/Journal" "events" "Ljava/util/List;" .null := D320 (Or.inr (tw hw 118 rfl)) (ty := (.object "java/util/List")) (by decide)
        have F320_incomplete : Fld Z h320 b320 "com/example/tranche/tranche/journal/Journal" "incomplete" "Z" (.int (0 : Int32)) := D320 (Or.inr (tw hw 120 rfl)) (ty := .boolean) (by decide)
        refine Go.dup (pc' := 171) C X320 at_170 rfl rfl ?_
        refine Go.aload (pc' := 173) C X320 at_171 rfl rfl rfl ?_
        refine Go.aload (pc' := 175) C X320 at_173 rfl rfl rfl ?_
        refine Go.iload (pc' := 177) C X320 at_175 rfl rfl ?_
        have c323 : Exa Z h320 b296 "java/util/ArrayList" := (Exa.ext E320 (Exa.keep c312 K311))
        have c324 : Fld Z h320 b296 "java/util/ArrayList" "elementData" "[Ljava/lang/Object;" (.ref w_301) := (Fld.ext E320 P311_1)
        have c325 : Fld Z h320 b296 "java/util/ArrayList" "size" "I" (.int (3 : Int32)) := (Fld.ext E320 P311_2)
        have c326 : Exa Z h320 w_301 "[Ljava/lang/Object;" := (Exa.ext E320 (Exa.keep c314 K311))
        have c327 : AL Z h320 w_301 kw_301 (.object "java/lang/Object") [(.ref b283), (.ref b283), (.ref b283), .null, .null, .null, .null, .null, .null, .null] := (AL.ext E320 P311_3)
        have c328 : Exa Z h320 b283 "com/example/tranche/tranche/journal/DefaultRateChange" := (Exa.ext E320 (Exa.keep c313 K311))
        have O329 : Ext Z.heap h320 := (Ext.trans O321 E320)
        refine Go.callI (y := (⟨"com/example/tranche/tranche/journal/Journal", "<init>", "(Ljava/lang/String;Ljava/util/List;Z)V"⟩ : MethodName)) (a := b320) (pc' := 180) C X320 rfl (tw hw 82 rfl) (tw hw 83 rfl) (by decide) (rm_jI3 l Z a0 hw b320 r_282 x b296 b283 w_301 kw_301 mr h320 O329 A320 F320_source F320_events F320_incomplete c323 c324 c325 c326 c327 c328 hM n_b320) (tw hw 84 rfl) (tw hw 81 rfl) e320 (argsL := [(.ref r_282), (.ref b296), (.int x)]) (rest := [(.ref b320)]) (W := 1) rfl rfl pd_22 rfl (Nat.le_of_eq rfl) rfl (by decide) (by decide) (by decide) (by decide) rfl at_177 rfl ?_
        intro T322 v322 L322 X322 q322
        obtain ⟨r_322, q_322, kq_322, rfl, N322q, K322, B322_0, B322_1, P322_0, P322_1, P322_2, P322_3⟩ := q322
        have N322 := Fr.app N311 N322q
        have n_r_322 : Z.heap.size ≤ r_322 := Nat.le_trans O329.1 B322_0
        have z_r_322 : h0.size ≤ r_322 := Nat.le_trans (Nat.le_trans (Nat.le_trans (Nat.le_trans (Nat.le_trans (Nat.le_trans (Nat.le_trans (Nat.le_trans (Nat.le_trans (Nat.le_trans (Nat.le_trans (Nat.le_trans (Nat.le_refl _) K282.1) E283.1) E285.1) K287.1) K290.1) E296.1) K298.1) K301.1) K306.1) K311.1) E320.1) B322_0
        have n_q_322 : Z.heap.size ≤ q_322 := Nat.le_trans O329.1 B322_1
        have z_q_322 : h0.size ≤ q_322 := Nat.le_trans (Nat.le_trans (Nat.le_trans (Nat.le_trans (Nat.le_trans (Nat.le_trans (Nat.le_trans (Nat.le_trans (Nat.le_trans (Nat.le_trans (Nat.le_trans (Nat.le_trans (Nat.le_refl _) K282.1) E283.1) E285.1) K287.1) K290.1) E296.1) K298.1) K301.1) K306.1) K311.1) E320.1) B322_1
        refine Go.astore (Ls' := #[.val (.int p1), .val (.int p2), .val (.int p3), .val (.int p4), .val (.int (3 : Int32)), .val (.int x), .val (.ref r_282), .val (.ref b283), .val (.ref b296), .val (.ref b320)]) (pc' := 182) C X322 at_180 rfl rfl rfl ?_
        refine Go.aload (pc' := 184) C X322 at_182 rfl rfl rfl ?_
        refine Go.aload (pc' := 186) C X322 at_184 rfl rfl rfl ?_
        have c331 : Exa Z T322.heap b296 "java/util/ArrayList" := (Exa.keep c323 K322)
        have c332 : Exa Z T322.heap b283 "com/example/tranche/tranche/journal/DefaultRateChange" := (Exa.keep c328 K322)
        have ne333 : b296 ≠ b320 := Nat.ne_of_lt (Nat.lt_of_lt_of_le A296.lt (Nat.le_trans (Nat.le_trans (Nat.le_trans (Nat.le_trans (Nat.le_trans (Nat.le_refl _) K298.1) K301.1) K306.1) K311.1) (Nat.le_of_eq g320.symm)))
        have c334 : Fld Z T322.heap b296 "java/util/AbstractList" "modCount" "I" (.int ((((0 : Int32) + (1 : Int32)) + (1 : Int32)) + (1 : Int32))) := (Fld.keep (Fld.ext E320 P311_0) K322 (ninS ne333 nin0))
        have c335 : Fld Z T322.heap b296 "java/util/ArrayList" "elementData" "[Ljava/lang/Object;" (.ref w_301) := (Fld.keep c324 K322 (ninS ne333 nin0))
        have c336 : Fld Z T322.heap b296 "java/util/ArrayList" "size" "I" (.int (3 : Int32)) := (Fld.keep c325 K322 (ninS ne333 nin0))
        have c337 : Exa Z T322.heap w_301 "[Ljava/lang/Object;" := (Exa.keep c326 K322)
        have ne338 : w_301 ≠ b320 := Nat.ne_of_lt (Nat.lt_of_lt_of_le P301_3.lt (Nat.le_trans (Nat.le_trans (Nat.le_trans (Nat.le_refl _) K306.1) K311.1) (Nat.le_of_eq g320.symm)))
        have c339 : AL Z T322.heap w_301 kw_301 (.object "java/lang/Object") [(.ref b283), (.ref b283), (.ref b283), .null, .null, .null, .null, .null, .null, .null] := (AL.keep c327 K322 (ninS ne338 nin0))
        have O340 : Ext Z.heap T322.heap := (Ext.keep O329 K322 (allS n_b320 all0))
        refine Go.callV (y := (⟨"java/util/ArrayList", "add", "(Ljava/lang/Object;)Z"⟩ : MethodName)) (z := (⟨"java/util/ArrayList", "add", "(Ljava/lang/Object;)Z"⟩ : MethodName)) (a := b296) (pc' := 189) C X322 (tw hw 121 rfl) (tw hw 122 rfl) (notFace_at C.2.1 (tw hw 124 rfl)) (tw hw 124 rfl) (tw hw 123 rfl) c331 (by decide) (rm_add3 l Z a0 hw b296 b283 w_301 kw_301 (((((0 : Int32) + (1 : Int32)) + (1 : Int32)) + (1 : Int32))) T322.heap O340 c331 c332 c334 c335 c336 c337 c339 n_b296 n_w_301 p301_0) (tw hw 125 rfl) (tw hw 57 rfl) rfl (argsL := [(.ref b283)]) (rest := []) (W := 0) rfl rfl pd_23 rfl (Nat.le_of_eq rfl) rfl (by decide) (by decide) (by decide) (by decide) at_186 rfl ?_
        intro T330 v330 L330 X330 q330
        obtain ⟨rfl, N330q, K330, P330_0, P330_1, P330_2, P330_3⟩ := q330
        have N330 := Fr.app N322 N330q
        refine Go.pop (pc' := 190) C X330 at_189 rfl rfl ?_
        refine Go.aload (pc' := 192) C X330 at_190 rfl rfl rfl ?_
        have c342 : Fld Z T330.heap b320 "com/example/tranche/tranche/journal/Journal" "events" "Ljava/util/List;" (.ref r_322) := (Fld.keep P322_0 K330 (ninS (Ne.symm ne333) (ninS (Ne.symm ne338) nin0)))
        have c343 : Exa Z T330.heap r_322 "java/util/ImmutableCollections$ListN" := (Exa.keep P322_1 K330)
        have ne344 : r_322 ≠ w_301 := (Nat.ne_of_gt (Nat.lt_of_lt_of_le P301_3.lt (Nat.le_trans (Nat.le_trans (Nat.le_trans (Nat.le_trans (Nat.le_refl _) K306.1) K311.1) E320.1) B322_0)))
        have ne345 : r_322 ≠ b296 := (Nat.ne_of_gt (Nat.lt_of_lt_of_le A296.lt (Nat.le_trans (Nat.le_trans (Nat.le_trans (Nat.le_trans (Nat.le_trans (Nat.le_trans (Nat.le_refl _) K298.1) K301.1) K306.1) K311.1) E320.1) B322_0)))
        have c346 : Fld Z T330.heap r_322 "java/util/ImmutableCollections$ListN" "elements" "[Ljava/lang/Object;" (.ref q_322) := (Fld.keep P322_2 K330 (ninS ne345 (ninS ne344 nin0)))
        have ne347 : q_322 ≠ w_301 := (Nat.ne_of_gt (Nat.lt_of_lt_of_le P301_3.lt (Nat.le_trans (Nat.le_trans (Nat.le_trans (Nat.le_trans (Nat.le_refl _) K306.1) K311.1) E320.1) B322_1)))
        have ne348 : q_322 ≠ b296 := (Nat.ne_of_gt (Nat.lt_of_lt_of_le A296.lt (Nat.le_trans (Nat.le_trans (Nat.le_trans (Nat.le_trans (Nat.le_trans (Nat.le_trans (Nat.le_refl _) K298.1) K301.1) K306.1) K311.1) E320.1) B322_1)))
        have c349 : AL Z T330.heap q_322 kq_322 (.object "java/lang/Object") [(.ref b283), (.ref b283), (.ref b283)] := (AL.keep P322_3 K330 (ninS ne348 (ninS ne347 nin0)))
        have O350 : Ext Z.heap T330.heap := (Ext.keep O340 K330 (allS n_b296 (allS n_w_301 all0)))
        have c351 : Exa Z T330.heap b320 "com/example/tranche/tranche/journal/Journal" := (Exa.keep (Exa.keep A320 K322) K330)
        refine Go.callV (y := (⟨"com/example/tranche/tranche/journal/Journal", "nextLine", "()I"⟩ : MethodName)) (z := (⟨"com/example/tranche/tranche/journal/Journal", "nextLine", "()I"⟩ : MethodName)) (a := b320) (pc' := 195) C X330 (tw hw 150 rfl) (tw hw 151 rfl) (notFace_at C.2.1 (tw hw 153 rfl)) (tw hw 153 rfl) (tw hw 152 rfl) c351 (by decide) (rm_nl3 l Z a0 hw b320 r_322 q_322 kq_322 b283 T330.heap O350 c342 c343 c346 c349) (tw hw 154 rfl) (tw hw 81 rfl) rfl (argsL := []) (rest := []) (W := 0) rfl rfl pd_18 rfl (Nat.le_of_eq rfl) rfl (by decide) (by decide) (by decide) (by decide) at_192 rfl ?_
        intro T341 v341 L341 X341 q341
        obtain ⟨rfl, rfl, e341⟩ := q341
        have N341 := Fr.app N330 (Fr.nil _)
        refine Go.iload (pc' := 197) C X341 at_195 rfl rfl ?_
        refine Go.iconst (z := (1 : Int32)) (pc' := 198) C X341 at_197 rfl rfl ?_
        refine Go.iadd (pc' := 199) C X341 at_198 rfl ?_
        rw [show ((3 : Int32) + (1 : Int32)) = (4 : Int32) from by decide]
        refine Go.icmpNo (pc' := 202) C X341 at_199 (teq (x := (4 : Int32)) (y := (4 : Int32)) (by decide)).2 rfl ?_
        refine Go.iconst (z := (1 : Int32)) (pc' := 203) C X341 at_202 rfl rfl ?_
        refine Go.goto (pc' := 207) C X341 at_203 (by decide) (by decide) ?_
        have K353 : Keep h0 T330.heap [] := ((((((((((((((Keep.refl h0 []).trans K282 all0).ext E283).ext E285).trans K287 (allS (Or.inr z_b285) all0)).trans K290 (allS (Or.inr z_b283) all0)).ext E296).trans K298 (allS (Or.inr z_b296) all0)).trans K301 (allS (Or.inr z_b296) all0)).trans K306 (allS (Or.inr z_b296) (allS (Or.inr z_w_301) all0))).trans K311 (allS (Or.inr z_b296) (allS (Or.inr z_w_301) all0))).ext E320).trans K322 (allS (Or.inr z_b320) all0)).trans K330 (allS (Or.inr z_b296) (allS (Or.inr z_w_301) all0)))
        exact Go.retN C X341 rfl at_207 (by simp) (by rw [e341]; exact ⟨rfl, N341, K353⟩) (by decide) (by decide)
      by_cases hc47_354 : (p2 &&& (2 : Int32)) = (0 : Int32)
      · refine Go.ifYes (pc' := 54) C X287 at_47 ((if0 _ _).trans (teq (x := (p2 &&& (2 : Int32))) (y := (0 : Int32)) hc47_354).1) (by decide) (by decide) ?_
        refine Go.iconst (z := (0 : Int32)) (pc' := 55) C X287 at_54 rfl rfl ?_
        exact K55 _ _ X287 rfl N287 (0 : Int32) 
      · refine Go.ifNo (pc' := 50) C X287 at_47 ((if0 _ _).trans (feq (x := (p2 &&& (2 : Int32))) (y := (0 : Int32)) hc47_354).1) rfl ?_
        refine Go.iconst (z := (1 : Int32)) (pc' := 51) C X287 at_50 rfl rfl ?_
        refine Go.goto (pc' := 55) C X287 at_51 (by decide) (by decide) ?_
        exact K55 _ _ X287 rfl N287 (1 : Int32) 
    by_cases hc9_355 : (p2 &&& (1 : Int32)) = (0 : Int32)
    · refine Go.ifYes (pc' := 16) C X0 at_9 ((if0 _ _).trans (teq (x := (p2 &&& (1 : Int32))) (y := (0 : Int32)) hc9_355).1) (by decide) (by decide) ?_
      refine Go.iconst (z := (0 : Int32)) (pc' := 17) C X0 at_16 rfl rfl ?_
      exact K17 _ _ X0 e0 N0 (0 : Int32) 
    · refine Go.ifNo (pc' := 12) C X0 at_9 ((if0 _ _).trans (feq (x := (p2 &&& (1 : Int32))) (y := (0 : Int32)) hc9_355).1) rfl ?_
      refine Go.iconst (z := (1 : Int32)) (pc' := 13) C X0 at_12 rfl rfl ?_
      refine Go.goto (pc' := 17) C X0 at_13 (by decide) (by decide) ?_
      exact K17 _ _ X0 e0 N0 (1 : Int32) 
  · rw [hl]
    refine Go.iloadN (pc' := 7) C X0 at_6 rfl rfl ?_
    refine Go.iconst (z := (1 : Int32)) (pc' := 8) C X0 at_7 rfl rfl ?_
    refine Go.iand (pc' := 9) C X0 at_8 rfl ?_
    have K17 : ∀ (T356 : State) (L356 : List Loc), Stand p l e room_1 s m #[(.int p1), (.int p2), (.int p3), (.int p4)] below meth c T356 L356 0 0 → T356.heap = h0 → Fr Z.heap.size L356 → ∀ (x : Int32), Go p e below (Fn s room_1.cells room_1.slots (Q_law Z p1 p2 p3 p4 cP dc kd em el ea ke mr h0)) T356 (mkF m 17 #[.val (.int p1), .val (.int p2), .val (.int p3), .val (.int p4), .val (.int (4 : Int32)), .unset, .unset, .unset, .unset, .unset] [(.int x)]) := by
      intro T356 L356 X356 e356 N356 x
      refine Go.istore (Ls' := #[.val (.int p1), .val (.int p2), .val (.int p3), .val (.int p4), .val (.int (4 : Int32)), .val (.int x), .unset, .unset, .unset, .unset]) (pc' := 19) C X356 at_17 rfl rfl ?_
      refine Go.iloadN (pc' := 20) C X356 at_19 rfl rfl ?_
      refine Go.sipush (z := (255 : Int32)) (pc' := 23) C X356 at_20 rfl rfl ?_
      refine Go.iand (pc' := 24) C X356 at_23 rfl ?_
      refine Go.i2c (pc' := 25) C X356 at_24 rfl ?_
      refine Go.callS (y := (⟨"java/lang/String", "valueOf", "(C)Ljava/lang/String;"⟩ : MethodName)) (pc' := 28) C X356 (tw hw 0 rfl) (tw hw 1 rfl) (by decide) (rm_vc l Z a0 hw (((p3 &&& (255 : Int32)).toUInt32.toUInt16.toUInt32.toInt32)) cP h0 O0 SC (own_c255 p3) hP) (tw hw 3 rfl) (tw hw 2 rfl) e356 (argsL := [(.int ((p3 &&& (255 : Int32)).toUInt32.toUInt16.toUInt32.toInt32))]) (rest := []) (W := 0) rfl rfl pd_19 rfl (Nat.le_of_eq rfl) rfl (by decide) (by decide) (by decide) (by decide) at_25 rfl ?_
      intro T357 v357 L357 X357 q357
      obtain ⟨r_357, rfl, N357q, K357, B357_0, P357_0⟩ := q357
      have N357 := Fr.app N356 N357q
      have n_r_357 : Z.heap.size ≤ r_357 := Nat.le_trans O0.1 B357_0
      have z_r_357 : h0.size ≤ r_357 := Nat.le_trans (Nat.le_refl _) B357_0
      refine Go.astore (Ls' := #[.val (.int p1), .val (.int p2), .val (.int p3), .val (.int p4), .val (.int (4 : Int32)), .val (.int x), .val (.ref r_357), .unset, .unset, .unset]) (pc' := 30) C X357 at_28 rfl rfl rfl ?_
      have O359 : Ext Z.heap T357.heap := (Ext.keep O0 K357 all0)
      refine Go.newO (pc' := 33) C X357 (tw hw 26 rfl) (tw hw 27 rfl) (tw hw 28 rfl) rfl (by decide) (by decide) at_30 rfl ?_
      intro T358 h358 b358 X358 e358 g358 E358 A358 D358
      have n_b358 : Z.heap.size ≤ b358 := Nat.le_trans O359.1 (Nat.le_of_eq g358.symm)
      have z_b358 : h0.size ≤ b358 := Nat.le_trans (Nat.le_trans (Nat.le_refl _) K357.1) (Nat.le_of_eq g358.symm)
      have F358_entry : Fld Z h358 b358 "com/example/tranche/tranche/journal/DefaultRateChange" "entry" "Lcom/example/tranche/tranche/journal/Entry;" .null := D358 (Or.inr (tw hw 52 rfl)) (ty := (.object "com/example/tranche/tranche/journal/Entry")) (by decide)
      have F358_applies : Fld Z h358 b358 "com/example/tranche/tranche/journal/DefaultRateChange" "applies" "Z" (.int (0 : Int32)) := D358 (Or.inr (tw hw 54 rfl)) (ty := .boolean) (by decide)
      refine Go.dup (pc' := 34) C X358 at_33 rfl rfl ?_
      have O361 : Ext Z.heap h358 := (Ext.trans O359 E358)
      refine Go.newO (pc' := 37) C X358 (tw hw 29 rfl) (tw hw 30 rfl) (tw hw 31 rfl) e358 (by decide) (by decide) at_34 rfl ?_
      intro T360 h360 b360 X360 e360 g360 E360 A360 D360
      have n_b360 : Z.heap.size ≤ b360 := Nat.le_trans O361.1 (Nat.le_of_eq g360.symm)
      have z_b360 : h0.size ≤ b360 := Nat.le_trans (Nat.le_trans (Nat.le_trans (Nat.le_refl _) K357.1) E358.1) (Nat.le_of_eq g360.symm)
      have F360_line : Fld Z h360 b360 "com/example/tranche/tranche/journal/Entry" "line" "I" (.int (0 : Int32)) := D360 (Or.inr (tw hw 42 rfl)) (ty := .int) (by decide)
      have F360_date : Fld Z h360 b360 "com/example/tranche/tranche/journal/Entry" "date" "Ljava/time/LocalDate;" .null := D360 (Or.inr (tw hw 44 rfl)) (ty := (.object "java/time/LocalDate")) (by decide)
      have F360_recorded : Fld Z h360 b360 "com/example/tranche/tranche/journal/Entry" "recorded" "Ljava/time/LocalDate;" .null := D360 (Or.inr (tw hw 46 rfl)) (ty := (.object "java/time/LocalDate")) (by decide)
      refine Go.dup (pc' := 38) C X360 at_37 rfl rfl ?_
      refine Go.iloadN (pc' := 39) C X360 at_38 rfl rfl ?_
      refine Go.aconstNull (pc' := 40) C X360 at_39 rfl ?_
      refine Go.aconstNull (pc' := 41) C X360 at_40 rfl ?_
      have O363 : Ext Z.heap h360 := (Ext.trans O361 E360)
      refine Go.callI (y := (⟨"com/example/tranche/tranche/journal/Entry", "<init>", "(ILjava/time/LocalDate;Ljava/time/LocalDate;)V"⟩ : MethodName)) (a := b360) (pc' := 44) C X360 rfl (tw hw 32 rfl) (tw hw 33 rfl) (by decide) (rm_en l Z a0 hw b360 p4 h360 O363 A360 F360_line F360_date F360_recorded n_b360) (tw hw 34 rfl) (tw hw 31 rfl) e360 (argsL := [(.int p4), .null, .null]) (rest := [(.ref b360), (.ref b358), (.ref b358)]) (W := 3) rfl rfl pd_20 rfl (Nat.le_of_eq rfl) rfl (by decide) (by decide) (by decide) (by decide) rfl at_41 rfl ?_
      intro T362 v362 L362 X362 q362
      obtain ⟨rfl, N362q, K362⟩ := q362
      have N362 := Fr.app N357 N362q
      refine Go.iloadN (pc' := 45) C X362 at_44 rfl rfl ?_
      refine Go.iconst (z := (2 : Int32)) (pc' := 46) C X362 at_45 rfl rfl ?_
      refine Go.iand (pc' := 47) C X362 at_46 rfl ?_
      have K55 : ∀ (T364 : State) (L364 : List Loc), Stand p l e room_1 s m #[(.int p1), (.int p2), (.int p3), (.int p4)] below meth c T364 L364 4 10 → T364.heap = T362.heap → Fr Z.heap.size L364 → ∀ (y : Int32), Go p e below (Fn s room_1.cells room_1.slots (Q_law Z p1 p2 p3 p4 cP dc kd em el ea ke mr h0)) T364 (mkF m 55 #[.val (.int p1), .val (.int p2), .val (.int p3), .val (.int p4), .val (.int (4 : Int32)), .val (.int x), .val (.ref r_357), .unset, .unset, .unset] [(.int y), (.ref b360), (.ref b358), (.ref b358)]) := by
        intro T364 L364 X364 e364 N364 y
        have c366 : Exa Z T362.heap b358 "com/example/tranche/tranche/journal/DefaultRateChange" := (Exa.keep (Exa.ext E360 A358) K362)
        have ne367 : b358 ≠ b360 := Nat.ne_of_lt (Nat.lt_of_lt_of_le A358.lt (Nat.le_trans (Nat.le_refl _) (Nat.le_of_eq g360.symm)))
        have c368 : Fld Z T362.heap b358 "com/example/tranche/tranche/journal/DefaultRateChange" "entry" "Lcom/example/tranche/tranche/journal/Entry;" .null := (Fld.keep (Fld.ext E360 F358_entry) K362 (ninS ne367 nin0))
        have c369 : Fld Z T362.heap b358 "com/example/tranche/tranche/journal/DefaultRateChange" "applies" "Z" (.int (0 : Int32)) := (Fld.keep (Fld.ext E360 F358_applies) K362 (ninS ne367 nin0))
        have O370 : Ext Z.heap T362.heap := (Ext.keep O363 K362 (allS n_b360 all0))
        refine Go.callI (y := (⟨"com/example/tranche/tranche/journal/DefaultRateChange", "<init>", "(Lcom/example/tranche/tranche/journal/Entry;Z)V"⟩ : MethodName)) (a := b358) (pc' := 58) C X364 rfl (tw hw 47 rfl) (tw hw 48 rfl) (by decide) (rm_dr l Z a0 hw b358 b360 y T362.heap O370 c366 c368 c369 n_b358) (tw hw 49 rfl) (tw hw 28 rfl) e364 (argsL := [(.ref b360), (.int y)]) (rest := [(.ref b358)]) (W := 1) rfl rfl pd_21 rfl (Nat.le_of_eq rfl) rfl (by decide) (by decide) (by decide) (by decide) rfl at_55 rfl ?_
        intro T365 v365 L365 X365 q365
        obtain ⟨rfl, N365q, K365⟩ := q365
        have N365 := Fr.app N364 N365q
        refine Go.astore (Ls' := #[.val (.int p1), .val (.int p2), .val (.int p3), .val (.int p4), .val (.int (4 : Int32)), .val (.int x), .val (.ref r_357), .val (.ref b358), .unset, .unset]) (pc' := 60) C X365 at_58 rfl rfl rfl ?_
        have O372 : Ext Z.heap T365.heap := (Ext.keep O370 K365 (allS n_b358 all0))
        refine Go.newO (pc' := 63) C X365 (tw hw 55 rfl) (tw hw 56 rfl) (tw hw 57 rfl) rfl (by decide) (by decide) at_60 rfl ?_
        intro T371 h371 b371 X371 e371 g371 E371 A371 D371
        have n_b371 : Z.heap.size ≤ b371 := Nat.le_trans O372.1 (Nat.le_of_eq g371.symm)
        have z_b371 : h0.size ≤ b371 := Nat.le_trans (Nat.le_trans (Nat.le_trans (Nat.le_trans (Nat.le_trans (Nat.le_trans (Nat.le_refl _) K357.1) E358.1) E360.1) K362.1) K365.1) (Nat.le_of_eq g371.symm)
        have F371_modCount : Fld Z h371 b371 "java/util/AbstractList" "modCount" "I" (.int (0 : Int32)) := D371 (Or.inl (tw hw 75 rfl)) (ty := .int) (by decide)
        have F371_elementData : Fld Z h371 b371 "java/util/ArrayList" "elementData" "[Ljava/lang/Object;" .null := D371 (Or.inl (tw hw 78 rfl)) (ty := (.array (.object "java/lang/Object"))) (by decide)
        have F371_size : Fld Z h371 b371 "java/util/ArrayList" "size" "I" (.int (0 : Int32)) := D371 (Or.inl (tw hw 110 rfl)) (ty := .int) (by decide)
        refine Go.dup (pc' := 64) C X371 at_63 rfl rfl ?_
        have O374 : Ext Z.heap h371 := (Ext.trans O372 E371)
        refine Go.callI (y := (⟨"java/util/ArrayList", "<init>", "()V"⟩ : MethodName)) (a := b371) (pc' := 67) C X371 rfl (tw hw 58 rfl) (tw hw 59 rfl) (by decide) (rm_alI l Z a0 hw b371 dc h371 O374 A371 F371_modCount F371_elementData F371_size SD n_b371) (tw hw 60 rfl) (tw hw 57 rfl) e371 (argsL := []) (rest := [(.ref b371)]) (W := 1) rfl rfl pd_3 rfl (Nat.le_of_eq rfl) rfl (by decide) (by decide) (by decide) (by decide) rfl at_64 rfl ?_
        intro T373 v373 L373 X373 q373
        obtain ⟨rfl, N373q, K373, P373_0, P373_1, P373_2⟩ := q373
        have N373 := Fr.app N365 N373q
        refine Go.astore (Ls' := #[.val (.int p1), .val (.int p2), .val (.int p3), .val (.int p4), .val (.int (4 : Int32)), .val (.int x), .val (.ref r_357), .val (.ref b358), .val (.ref b371), .unset]) (pc' := 69) C X373 at_67 rfl rfl rfl ?_
        refine Go.iload (pc' := 71) C X373 at_69 rfl rfl ?_
        refine Go.ifNo (pc' := 74) C X373 at_71 ((if0 _ _).trans (tlt (x := (0 : Int32)) (y := (4 : Int32)) (by decide)).2.2.2) rfl ?_
        refine Go.aload (pc' := 76) C X373 at_74 rfl rfl rfl ?_
        refine Go.aload (pc' := 78) C X373 at_76 rfl rfl rfl ?_
        have c377 : Exa Z T373.heap b371 "java/util/ArrayList" := (Exa.keep A371 K373)
        have c378 : Exa Z T373.heap b358 "com/example/tranche/tranche/journal/DefaultRateChange" := (Exa.keep (Exa.ext E371 (Exa.keep c366 K365)) K373)
        have O379 : Ext Z.heap T373.heap := (Ext.keep O374 K373 (allS n_b371 all0))
        refine Go.callV (y := (⟨"java/util/ArrayList", "add", "(Ljava/lang/Object;)Z"⟩ : MethodName)) (z := (⟨"java/util/ArrayList", "add", "(Ljava/lang/Object;)Z"⟩ : MethodName)) (a := b371) (pc' := 81) C X373 (tw hw 121 rfl) (tw hw 122 rfl) (notFace_at C.2.1 (tw hw 124 rfl)) (tw hw 124 rfl) (tw hw 123 rfl) c377 (by decide) (rm_add0 l Z a0 hw b371 b358 dc kd ((0 : Int32)) T373.heap O379 c377 c378 P373_0 P373_1 P373_2 SD AD n_b371) (tw hw 125 rfl) (tw hw 57 rfl) rfl (argsL := [(.ref b358)]) (rest := []) (W := 0) rfl rfl pd_23 rfl (Nat.le_of_eq rfl) rfl (by decide) (by decide) (by decide) (by decide) at_78 rfl ?_
        intro T376 v376 L376 X376 q376
        obtain ⟨w_376, kw_376, rfl, N376q, K376, B376_0, P376_0, P376_1, P376_2, P376_3, P376_4, p376_0⟩ := q376
        have N376 := Fr.app N373 N376q
        have n_w_376 : Z.heap.size ≤ w_376 := Nat.le_trans O379.1 B376_0
        have z_w_376 : h0.size ≤ w_376 := Nat.le_trans (Nat.le_trans (Nat.le_trans (Nat.le_trans (Nat.le_trans (Nat.le_trans (Nat.le_trans (Nat.le_trans (Nat.le_refl _) K357.1) E358.1) E360.1) K362.1) K365.1) E371.1) K373.1) B376_0
        refine Go.pop (pc' := 82) C X376 at_81 rfl rfl ?_
        refine Go.iload (pc' := 84) C X376 at_82 rfl rfl ?_
        refine Go.iconst (z := (1 : Int32)) (pc' := 85) C X376 at_84 rfl rfl ?_
        refine Go.icmpNo (pc' := 88) C X376 at_85 (tlt (x := (1 : Int32)) (y := (4 : Int32)) (by decide)).2.2.2 rfl ?_
        refine Go.aload (pc' := 90) C X376 at_88 rfl rfl rfl ?_
        refine Go.aload (pc' := 92) C X376 at_90 rfl rfl rfl ?_
        have c382 : Exa Z T376.heap b371 "java/util/ArrayList" := (Exa.keep c377 K376)
        have c383 : Exa Z T376.heap b358 "com/example/tranche/tranche/journal/DefaultRateChange" := (Exa.keep c378 K376)
        have O384 : Ext Z.heap T376.heap := (Ext.keep O379 K376 (allS n_b371 all0))
        refine Go.callV (y := (⟨"java/util/ArrayList", "add", "(Ljava/lang/Object;)Z"⟩ : MethodName)) (z := (⟨"java/util/ArrayList", "add", "(Ljava/lang/Object;)Z"⟩ : MethodName)) (a := b371) (pc' := 95) C X376 (tw hw 121 rfl) (tw hw 122 rfl) (notFace_at C.2.1 (tw hw 124 rfl)) (tw hw 124 rfl) (tw hw 123 rfl) c382 (by decide) (rm_add1 l Z a0 hw b371 b358 w_376 kw_376 (((0 : Int32) + (1 : Int32))) T376.heap O384 c382 c383 P376_0 P376_1 P376_2 P376_4 P376_3 n_b371 n_w_376 p376_0) (tw hw 125 rfl) (tw hw 57 rfl) rfl (argsL := [(.ref b358)]) (rest := []) (W := 0) rfl rfl pd_23 rfl (Nat.le_of_eq rfl) rfl (by decide) (by decide) (by decide) (by decide) at_92 rfl ?_
        intro T381 v381 L381 X381 q381
        obtain ⟨rfl, N381q, K381, P381_0, P381_1, P381_2, P381_3⟩ := q381
        have N381 := Fr.app N376 N381q
        refine Go.pop (pc' := 96) C X381 at_95 rfl rfl ?_
        refine Go.iload (pc' := 98) C X381 at_96 rfl rfl ?_
        refine Go.iconst (z := (2 : Int32)) (pc' := 99) C X381 at_98 rfl rfl ?_
        refine Go.icmpNo (pc' := 102) C X381 at_99 (tlt (x := (2 : Int32)) (y := (4 : Int32)) (by decide)).2.2.2 rfl ?_
        refine Go.aload (pc' := 104) C X381 at_102 rfl rfl rfl ?_
        refine Go.aload (pc' := 106) C X381 at_104 rfl rfl rfl ?_
        have c387 : Exa Z T381.heap b371 "java/util/ArrayList" := (Exa.keep c382 K381)
        have c388 : Exa Z T381.heap b358 "com/example/tranche/tranche/journal/DefaultRateChange" := (Exa.keep c383 K381)
        have c389 : Exa Z T381.heap w_376 "[Ljava/lang/Object;" := (Exa.keep P376_4 K381)
        have O390 : Ext Z.heap T381.heap := (Ext.keep O384 K381 (allS n_b371 (allS n_w_376 all0)))
        refine Go.callV (y := (⟨"java/util/ArrayList", "add", "(Ljava/lang/Object;)Z"⟩ : MethodName)) (z := (⟨"java/util/ArrayList", "add", "(Ljava/lang/Object;)Z"⟩ : MethodName)) (a := b371) (pc' := 109) C X381 (tw hw 121 rfl) (tw hw 122 rfl) (notFace_at C.2.1 (tw hw 124 rfl)) (tw hw 124 rfl) (tw hw 123 rfl) c387 (by decide) (rm_add2 l Z a0 hw b371 b358 w_376 kw_376 ((((0 : Int32) + (1 : Int32)) + (1 : Int32))) T381.heap O390 c387 c388 P381_0 P381_1 P381_2 c389 P381_3 n_b371 n_w_376 p376_0) (tw hw 125 rfl) (tw hw 57 rfl) rfl (argsL := [(.ref b358)]) (rest := []) (W := 0) rfl rfl pd_23 rfl (Nat.le_of_eq rfl) rfl (by decide) (by decide) (by decide) (by decide) at_106 rfl ?_
        intro T386 v386 L386 X386 q386
        obtain ⟨rfl, N386q, K386, P386_0, P386_1, P386_2, P386_3⟩ := q386
        have N386 := Fr.app N381 N386q
        refine Go.pop (pc' := 110) C X386 at_109 rfl rfl ?_
        refine Go.iload (pc' := 112) C X386 at_110 rfl rfl ?_
        refine Go.iconst (z := (3 : Int32)) (pc' := 113) C X386 at_112 rfl rfl ?_
        refine Go.icmpNo (pc' := 116) C X386 at_113 (tlt (x := (3 : Int32)) (y := (4 : Int32)) (by decide)).2.2.2 rfl ?_
        refine Go.aload (pc' := 118) C X386 at_116 rfl rfl rfl ?_
        refine Go.aload (pc' := 120) C X386 at_118 rfl rfl rfl ?_
        have c393 : Exa Z T386.heap b371 "java/util/ArrayList" := (Exa.keep c387 K386)
        have c394 : Exa Z T386.heap b358 "com/example/tranche/tranche/journal/DefaultRateChange" := (Exa.keep c388 K386)
        have c395 : Exa Z T386.heap w_376 "[Ljava/lang/Object;" := (Exa.keep c389 K386)
        have O396 : Ext Z.heap T386.heap := (Ext.keep O390 K386 (allS n_b371 (allS n_w_376 all0)))
        refine Go.callV (y := (⟨"java/util/ArrayList", "add", "(Ljava/lang/Object;)Z"⟩ : MethodName)) (z := (⟨"java/util/ArrayList", "add", "(Ljava/lang/Object;)Z"⟩ : MethodName)) (a := b371) (pc' := 123) C X386 (tw hw 121 rfl) (tw hw 122 rfl) (notFace_at C.2.1 (tw hw 124 rfl)) (tw hw 124 rfl) (tw hw 123 rfl) c393 (by decide) (rm_add3 l Z a0 hw b371 b358 w_376 kw_376 (((((0 : Int32) + (1 : Int32)) + (1 : Int32)) + (1 : Int32))) T386.heap O396 c393 c394 P386_0 P386_1 P386_2 c395 P386_3 n_b371 n_w_376 p376_0) (tw hw 125 rfl) (tw hw 57 rfl) rfl (argsL := [(.ref b358)]) (rest := []) (W := 0) rfl rfl pd_23 rfl (Nat.le_of_eq rfl) rfl (by decide) (by decide) (by decide) (by decide) at_120 rfl ?_
        intro T392 v392 L392 X392 q392
        obtain ⟨rfl, N392q, K392, P392_0, P392_1, P392_2, P392_3⟩ := q392
        have N392 := Fr.app N386 N392q
        refine Go.pop (pc' := 124) C X392 at_123 rfl rfl ?_
        refine Go.iload (pc' := 126) C X392 at_124 rfl rfl ?_
        refine Go.iconst (z := (4 : Int32)) (pc' := 127) C X392 at_126 rfl rfl ?_
        refine Go.icmpYes (pc' := 138) C X392 at_127 (flt (x := (4 : Int32)) (y := (4 : Int32)) (by decide)).2.2.2 (by decide) (by decide) ?_
        refine Go.iload (pc' := 140) C X392 at_138 rfl rfl ?_
        refine Go.iconst (z := (5 : Int32)) (pc' := 141) C X392 at_140 rfl rfl ?_
        refine Go.icmpYes (pc' := 152) C X392 at_141 (flt (x := (5 : Int32)) (y := (4 : Int32)) (by decide)).2.2.2 (by decide) (by decide) ?_
        refine Go.iload (pc' := 154) C X392 at_152 rfl rfl ?_
        refine Go.bipush (z := (6 : Int32)) (pc' := 156) C X392 at_154 rfl rfl ?_
        refine Go.icmpYes (pc' := 167) C X392 at_156 (flt (x := (6 : Int32)) (y := (4 : Int32)) (by decide)).2.2.2 (by decide) (by decide) ?_
        have O401 : Ext Z.heap T392.heap := (Ext.keep O396 K392 (allS n_b371 (allS n_w_376 all0)))
        refine Go.newO (pc' := 170) C X392 (tw hw 79 rfl) (tw hw 80 rfl) (tw hw 81 rfl) rfl (by decide) (by decide) at_167 rfl ?_
        intro T400 h400 b400 X400 e400 g400 E400 A400 D400
        have n_b400 : Z.heap.size ≤ b400 := Nat.le_trans O401.1 (Nat.le_of_eq g400.symm)
        have z_b400 : h0.size ≤ b400 := Nat.le_trans (Nat.le_trans (Nat.le_trans (Nat.le_trans (Nat.le_trans (Nat.le_trans (Nat.le_trans (Nat.le_trans (Nat.le_trans (Nat.le_trans (Nat.le_trans (Nat.le_trans (Nat.le_refl _) K357.1) E358.1) E360.1) K362.1) K365.1) E371.1) K373.1) K376.1) K381.1) K386.1) K392.1) (Nat.le_of_eq g400.symm)
        have F400_source : Fld Z h400 b400 "com/example/tranche/tranche/journal/Journal" "source" "Ljava/lang/String;" .null := D400 (Or.inr (tw hw 116 rfl)) (ty := (.object "java/lang/String")) (by decide)
        have F400_events : Fld Z h400 b400 "com/example/tranche/tranche/journal/Journal" "events" "Ljava/util/List;" .null := D400 (Or.inr (tw hw 118 rfl)) (ty := (.object "java/util/List")) (by decide)
        have F400_incomplete : Fld Z h400 b400 "com/example/tranche/tranche/journal/Journal" "incomplete" "Z" (.int (0 : Int32)) := D400 (Or.inr (tw hw 120 rfl)) (ty := .boolean) (by decide)
        refine Go.dup (pc' := 171) C X400 at_170 rfl rfl ?_
        refine Go.aload (pc' := 173) C X400 at_171 rfl rfl rfl ?_
        refine Go.aload (pc' := 175) C X400 at_173 rfl rfl rfl ?_
        refine Go.iload (pc' := 177) C X400 at_175 rfl rfl ?_
        have c403 : Exa Z h400 b371 "java/util/ArrayList" := (Exa.ext E400 (Exa.keep c393 K392))
        have c404 : Fld Z h400 b371 "java/util/ArrayList" "elementData" "[Ljava/lang/Object;" (.ref w_376) := (Fld.ext E400 P392_1)
        have c405 : Fld Z h400 b371 "java/util/ArrayList" "size" "I" (.int (4 : Int32)) := (Fld.ext E400 P392_2)
        have c406 : Exa Z h400 w_376 "[Ljava/lang/Object;" := (Exa.ext E400 (Exa.keep c395 K392))
        have c407 : AL Z h400 w_376 kw_376 (.object "java/lang/Object") [(.ref b358), (.ref b358), (.ref b358), (.ref b358), .null, .null, .null, .null, .null, .null] := (AL.ext E400 P392_3)
        have c408 : Exa Z h400 b358 "com/example/tranche/tranche/journal/DefaultRateChange" := (Exa.ext E400 (Exa.keep c394 K392))
        have O409 : Ext Z.heap h400 := (Ext.trans O401 E400)
        refine Go.callI (y := (⟨"com/example/tranche/tranche/journal/Journal", "<init>", "(Ljava/lang/String;Ljava/util/List;Z)V"⟩ : MethodName)) (a := b400) (pc' := 180) C X400 rfl (tw hw 82 rfl) (tw hw 83 rfl) (by decide) (rm_jI4 l Z a0 hw b400 r_357 x b371 b358 w_376 kw_376 mr h400 O409 A400 F400_source F400_events F400_incomplete c403 c404 c405 c406 c407 c408 hM n_b400) (tw hw 84 rfl) (tw hw 81 rfl) e400 (argsL := [(.ref r_357), (.ref b371), (.int x)]) (rest := [(.ref b400)]) (W := 1) rfl rfl pd_22 rfl (Nat.le_of_eq rfl) rfl (by decide) (by decide) (by decide) (by decide) rfl at_177 rfl ?_
        intro T402 v402 L402 X402 q402
        obtain ⟨r_402, q_402, kq_402, rfl, N402q, K402, B402_0, B402_1, P402_0, P402_1, P402_2, P402_3⟩ := q402
        have N402 := Fr.app N392 N402q
        have n_r_402 : Z.heap.size ≤ r_402 := Nat.le_trans O409.1 B402_0
        have z_r_402 : h0.size ≤ r_402 := Nat.le_trans (Nat.le_trans (Nat.le_trans (Nat.le_trans (Nat.le_trans (Nat.le_trans (Nat.le_trans (Nat.le_trans (Nat.le_trans (Nat.le_trans (Nat.le_trans (Nat.le_trans (Nat.le_trans (Nat.le_refl _) K357.1) E358.1) E360.1) K362.1) K365.1) E371.1) K373.1) K376.1) K381.1) K386.1) K392.1) E400.1) B402_0
        have n_q_402 : Z.heap.size ≤ q_402 := Nat.le_trans O409.1 B402_1
        have z_q_402 : h0.size ≤ q_402 := Nat.le_trans (Nat.le_trans (Nat.le_trans (Nat.le_trans (Nat.le_trans (Nat.le_trans (Nat.le_trans (Nat.le_trans (Nat.le_trans (Nat.le_trans (Nat.le_trans (Nat.le_trans (Nat.le_trans (Nat.le_refl _) K357.1) E358.1) E360.1) K362.1) K365.1) E371.1) K373.1) K376.1) K381.1) K386.1) K392.1) E400.1) B402_1
        refine Go.astore (Ls' := #[.val (.int p1), .val (.int p2), .val (.int p3), .val (.int p4), .val (.int (4 : Int32)), .val (.int x), .val (.ref r_357), .val (.ref b358), .val (.ref b371), .val (.ref b400)]) (pc' := 182) C X402 at_180 rfl rfl rfl ?_
        refine Go.aload (pc' := 184) C X402 at_182 rfl rfl rfl ?_
        refine Go.aload (pc' := 186) C X402 at_184 rfl rfl rfl ?_
        have c411 : Exa Z T402.heap b371 "java/util/ArrayList" := (Exa.keep c403 K402)
        have c412 : Exa Z T402.heap b358 "com/example/tranche/tranche/journal/DefaultRateChange" := (Exa.keep c408 K402)
        have ne413 : b371 ≠ b400 := Nat.ne_of_lt (Nat.lt_of_lt_of_le A371.lt (Nat.le_trans (Nat.le_trans (Nat.le_trans (Nat.le_trans (Nat.le_trans (Nat.le_trans (Nat.le_refl _) K373.1) K376.1) K381.1) K386.1) K392.1) (Nat.le_of_eq g400.symm)))
        have c414 : Fld Z T402.heap b371 "java/util/AbstractList" "modCount" "I" (.int (((((0 : Int32) + (1 : Int32)) + (1 : Int32)) + (1 : Int32)) + (1 : Int32))) := (Fld.keep (Fld.ext E400 P392_0) K402 (ninS ne413 nin0))
        have c415 : Fld Z T402.heap b371 "java/util/ArrayList" "elementData" "[Ljava/lang/Object;" (.ref w_376) := (Fld.keep c404 K402 (ninS ne413 nin0))
        have c416 : Fld Z T402.heap b371 "java/util/ArrayList" "size" "I" (.int (4 : Int32)) := (Fld.keep c405 K402 (ninS ne413 nin0))
        have c417 : Exa Z T402.heap w_376 "[Ljava/lang/Object;" := (Exa.keep c406 K402)
        have ne418 : w_376 ≠ b400 := Nat.ne_of_lt (Nat.lt_of_lt_of_le P376_3.lt (Nat.le_trans (Nat.le_trans (Nat.le_trans (Nat.le_trans (Nat.le_refl _) K381.1) K386.1) K392.1) (Nat.le_of_eq g400.symm)))
        have c419 : AL Z T402.heap w_376 kw_376 (.object "java/lang/Object") [(.ref b358), (.ref b358), (.ref b358), (.ref b358), .null, .null, .null, .null, .null, .null] := (AL.keep c407 K402 (ninS ne418 nin0))
        have O420 : Ext Z.heap T402.heap := (Ext.keep O409 K402 (allS n_b400 all0))
        refine Go.callV (y := (⟨"java/util/ArrayList", "add", "(Ljava/lang/Object;)Z"⟩ : MethodName)) (z := (⟨"java/util/ArrayList", "add", "(Ljava/lang/Object;)Z"⟩ : MethodName)) (a := b371) (pc' := 189) C X402 (tw hw 121 rfl) (tw hw 122 rfl) (notFace_at C.2.1 (tw hw 124 rfl)) (tw hw 124 rfl) (tw hw 123 rfl) c411 (by decide) (rm_add4 l Z a0 hw b371 b358 w_376 kw_376 ((((((0 : Int32) + (1 : Int32)) + (1 : Int32)) + (1 : Int32)) + (1 : Int32))) T402.heap O420 c411 c412 c414 c415 c416 c417 c419 n_b371 n_w_376 p376_0) (tw hw 125 rfl) (tw hw 57 rfl) rfl (argsL := [(.ref b358)]) (rest := []) (W := 0) rfl rfl pd_23 rfl (Nat.le_of_eq rfl) rfl (by decide) (by decide) (by decide) (by decide) at_186 rfl ?_
        intro T410 v410 L410 X410 q410
        obtain ⟨rfl, N410q, K410, P410_0, P410_1, P410_2, P410_3⟩ := q410
        have N410 := Fr.app N402 N410q
        refine Go.pop (pc' := 190) C X410 at_189 rfl rfl ?_
        refine Go.aload (pc' := 192) C X410 at_190 rfl rfl rfl ?_
        have c422 : Fld Z T410.heap b400 "com/example/tranche/tranche/journal/Journal" "events" "Ljava/util/List;" (.ref r_402) := (Fld.keep P402_0 K410 (ninS (Ne.symm ne413) (ninS (Ne.symm ne418) nin0)))
        have c423 : Exa Z T410.heap r_402 "java/util/ImmutableCollections$ListN" := (Exa.keep P402_1 K410)
        have ne424 : r_402 ≠ w_376 := (Nat.ne_of_gt (Nat.lt_of_lt_of_le P376_3.lt (Nat.le_trans (Nat.le_trans (Nat.le_trans (Nat.le_trans (Nat.le_trans (Nat.le_refl _) K381.1) K386.1) K392.1) E400.1) B402_0)))
        have ne425 : r_402 ≠ b371 := (Nat.ne_of_gt (Nat.lt_of_lt_of_le A371.lt (Nat.le_trans (Nat.le_trans (Nat.le_trans (Nat.le_trans (Nat.le_trans (Nat.le_trans (Nat.le_trans (Nat.le_refl _) K373.1) K376.1) K381.1) K386.1) K392.1) E400.1) B402_0)))
        have c426 : Fld Z T410.heap r_402 "java/util/ImmutableCollections$ListN" "elements" "[Ljava/lang/Object;" (.ref q_402) := (Fld.keep P402_2 K410 (ninS ne425 (ninS ne424 nin0)))
        have ne427 : q_402 ≠ w_376 := (Nat.ne_of_gt (Nat.lt_of_lt_of_le P376_3.lt (Nat.le_trans (Nat.le_trans (Nat.le_trans (Nat.le_trans (Nat.le_trans (Nat.le_refl _) K381.1) K386.1) K392.1) E400.1) B402_1)))
        have ne428 : q_402 ≠ b371 := (Nat.ne_of_gt (Nat.lt_of_lt_of_le A371.lt (Nat.le_trans (Nat.le_trans (Nat.le_trans (Nat.le_trans (Nat.le_trans (Nat.le_trans (Nat.le_trans (Nat.le_refl _) K373.1) K376.1) K381.1) K386.1) K392.1) E400.1) B402_1)))
        have c429 : AL Z T410.heap q_402 kq_402 (.object "java/lang/Object") [(.ref b358), (.ref b358), (.ref b358), (.ref b358)] := (AL.keep P402_3 K410 (ninS ne428 (ninS ne427 nin0)))
        have O430 : Ext Z.heap T410.heap := (Ext.keep O420 K410 (allS n_b371 (allS n_w_376 all0)))
        have c431 : Exa Z T410.heap b400 "com/example/tranche/tranche/journal/Journal" := (Exa.keep (Exa.keep A400 K402) K410)
        refine Go.callV (y := (⟨"com/example/tranche/tranche/journal/Journal", "nextLine", "()I"⟩ : MethodName)) (z := (⟨"com/example/tranche/tranche/journal/Journal", "nextLine", "()I"⟩ : MethodName)) (a := b400) (pc' := 195) C X410 (tw hw 150 rfl) (tw hw 151 rfl) (notFace_at C.2.1 (tw hw 153 rfl)) (tw hw 153 rfl) (tw hw 152 rfl) c431 (by decide) (rm_nl4 l Z a0 hw b400 r_402 q_402 kq_402 b358 T410.heap O430 c422 c423 c426 c429) (tw hw 154 rfl) (tw hw 81 rfl) rfl (argsL := []) (rest := []) (W := 0) rfl rfl pd_18 rfl (Nat.le_of_eq rfl) rfl (by decide) (by decide) (by decide) (by decide) at_192 rfl ?_
        intro T421 v421 L421 X421 q421
        obtain ⟨rfl, rfl, e421⟩ := q421
        have N421 := Fr.app N410 (Fr.nil _)
        refine Go.iload (pc' := 197) C X421 at_195 rfl rfl ?_
        refine Go.iconst (z := (1 : Int32)) (pc' := 198) C X421 at_197 rfl rfl ?_
        refine Go.iadd (pc' := 199) C X421 at_198 rfl ?_
        rw [show ((4 : Int32) + (1 : Int32)) = (5 : Int32) from by decide]
        refine Go.icmpNo (pc' := 202) C X421 at_199 (teq (x := (5 : Int32)) (y := (5 : Int32)) (by decide)).2 rfl ?_
        refine Go.iconst (z := (1 : Int32)) (pc' := 203) C X421 at_202 rfl rfl ?_
        refine Go.goto (pc' := 207) C X421 at_203 (by decide) (by decide) ?_
        have K433 : Keep h0 T410.heap [] := (((((((((((((((Keep.refl h0 []).trans K357 all0).ext E358).ext E360).trans K362 (allS (Or.inr z_b360) all0)).trans K365 (allS (Or.inr z_b358) all0)).ext E371).trans K373 (allS (Or.inr z_b371) all0)).trans K376 (allS (Or.inr z_b371) all0)).trans K381 (allS (Or.inr z_b371) (allS (Or.inr z_w_376) all0))).trans K386 (allS (Or.inr z_b371) (allS (Or.inr z_w_376) all0))).trans K392 (allS (Or.inr z_b371) (allS (Or.inr z_w_376) all0))).ext E400).trans K402 (allS (Or.inr z_b400) all0)).trans K410 (allS (Or.inr z_b371) (allS (Or.inr z_w_376) all0)))
        exact Go.retN C X421 rfl at_207 (by simp) (by rw [e421]; exact ⟨rfl, N421, K433⟩) (by decide) (by decide)
      by_cases hc47_434 : (p2 &&& (2 : Int32)) = (0 : Int32)
      · refine Go.ifYes (pc' := 54) C X362 at_47 ((if0 _ _).trans (teq (x := (p2 &&& (2 : Int32))) (y := (0 : Int32)) hc47_434).1) (by decide) (by decide) ?_
        refine Go.iconst (z := (0 : Int32)) (pc' := 55) C X362 at_54 rfl rfl ?_
        exact K55 _ _ X362 rfl N362 (0 : Int32) 
      · refine Go.ifNo (pc' := 50) C X362 at_47 ((if0 _ _).trans (feq (x := (p2 &&& (2 : Int32))) (y := (0 : Int32)) hc47_434).1) rfl ?_
        refine Go.iconst (z := (1 : Int32)) (pc' := 51) C X362 at_50 rfl rfl ?_
        refine Go.goto (pc' := 55) C X362 at_51 (by decide) (by decide) ?_
        exact K55 _ _ X362 rfl N362 (1 : Int32) 
    by_cases hc9_435 : (p2 &&& (1 : Int32)) = (0 : Int32)
    · refine Go.ifYes (pc' := 16) C X0 at_9 ((if0 _ _).trans (teq (x := (p2 &&& (1 : Int32))) (y := (0 : Int32)) hc9_435).1) (by decide) (by decide) ?_
      refine Go.iconst (z := (0 : Int32)) (pc' := 17) C X0 at_16 rfl rfl ?_
      exact K17 _ _ X0 e0 N0 (0 : Int32) 
    · refine Go.ifNo (pc' := 12) C X0 at_9 ((if0 _ _).trans (feq (x := (p2 &&& (1 : Int32))) (y := (0 : Int32)) hc9_435).1) rfl ?_
      refine Go.iconst (z := (1 : Int32)) (pc' := 13) C X0 at_12 rfl rfl ?_
      refine Go.goto (pc' := 17) C X0 at_13 (by decide) (by decide) ?_
      exact K17 _ _ X0 e0 N0 (1 : Int32) 
  · rw [hl]
    refine Go.iloadN (pc' := 7) C X0 at_6 rfl rfl ?_
    refine Go.iconst (z := (1 : Int32)) (pc' := 8) C X0 at_7 rfl rfl ?_
    refine Go.iand (pc' := 9) C X0 at_8 rfl ?_
    have K17 : ∀ (T436 : State) (L436 : List Loc), Stand p l e room_1 s m #[(.int p1), (.int p2), (.int p3), (.int p4)] below meth c T436 L436 0 0 → T436.heap = h0 → Fr Z.heap.size L436 → ∀ (x : Int32), Go p e below (Fn s room_1.cells room_1.slots (Q_law Z p1 p2 p3 p4 cP dc kd em el ea ke mr h0)) T436 (mkF m 17 #[.val (.int p1), .val (.int p2), .val (.int p3), .val (.int p4), .val (.int (5 : Int32)), .unset, .unset, .unset, .unset, .unset] [(.int x)]) := by
      intro T436 L436 X436 e436 N436 x
      refine Go.istore (Ls' := #[.val (.int p1), .val (.int p2), .val (.int p3), .val (.int p4), .val (.int (5 : Int32)), .val (.int x), .unset, .unset, .unset, .unset]) (pc' := 19) C X436 at_17 rfl rfl ?_
      refine Go.iloadN (pc' := 20) C X436 at_19 rfl rfl ?_
      refine Go.sipush (z := (255 : Int32)) (pc' := 23) C X436 at_20 rfl rfl ?_
      refine Go.iand (pc' := 24) C X436 at_23 rfl ?_
      refine Go.i2c (pc' := 25) C X436 at_24 rfl ?_
      refine Go.callS (y := (⟨"java/lang/String", "valueOf", "(C)Ljava/lang/String;"⟩ : MethodName)) (pc' := 28) C X436 (tw hw 0 rfl) (tw hw 1 rfl) (by decide) (rm_vc l Z a0 hw (((p3 &&& (255 : Int32)).toUInt32.toUInt16.toUInt32.toInt32)) cP h0 O0 SC (own_c255 p3) hP) (tw hw 3 rfl) (tw hw 2 rfl) e436 (argsL := [(.int ((p3 &&& (255 : Int32)).toUInt32.toUInt16.toUInt32.toInt32))]) (rest := []) (W := 0) rfl rfl pd_19 rfl (Nat.le_of_eq rfl) rfl (by decide) (by decide) (by decide) (by decide) at_25 rfl ?_
      intro T437 v437 L437 X437 q437
      obtain ⟨r_437, rfl, N437q, K437, B437_0, P437_0⟩ := q437
      have N437 := Fr.app N436 N437q
      have n_r_437 : Z.heap.size ≤ r_437 := Nat.le_trans O0.1 B437_0
      have z_r_437 : h0.size ≤ r_437 := Nat.le_trans (Nat.le_refl _) B437_0
      refine Go.astore (Ls' := #[.val (.int p1), .val (.int p2), .val (.int p3), .val (.int p4), .val (.int (5 : Int32)), .val (.int x), .val (.ref r_437), .unset, .unset, .unset]) (pc' := 30) C X437 at_28 rfl rfl rfl ?_
      have O439 : Ext Z.heap T437.heap := (Ext.keep O0 K437 all0)
      refine Go.newO (pc' := 33) C X437 (tw hw 26 rfl) (tw hw 27 rfl) (tw hw 28 rfl) rfl (by decide) (by decide) at_30 rfl ?_
      intro T438 h438 b438 X438 e438 g438 E438 A438 D438
      have n_b438 : Z.heap.size ≤ b438 := Nat.le_trans O439.1 (Nat.le_of_eq g438.symm)
      have z_b438 : h0.size ≤ b438 := Nat.le_trans (Nat.le_trans (Nat.le_refl _) K437.1) (Nat.le_of_eq g438.symm)
      have F438_entry : Fld Z h438 b438 "com/example/tranche/tranche/journal/DefaultRateChange" "entry" "Lcom/example/tranche/tranche/journal/Entry;" .null := D438 (Or.inr (tw hw 52 rfl)) (ty := (.object "com/example/tranche/tranche/journal/Entry")) (by decide)
      have F438_applies : Fld Z h438 b438 "com/example/tranche/tranche/journal/DefaultRateChange" "applies" "Z" (.int (0 : Int32)) := D438 (Or.inr (tw hw 54 rfl)) (ty := .boolean) (by decide)
      refine Go.dup (pc' := 34) C X438 at_33 rfl rfl ?_
      have O441 : Ext Z.heap h438 := (Ext.trans O439 E438)
      refine Go.newO (pc' := 37) C X438 (tw hw 29 rfl) (tw hw 30 rfl) (tw hw 31 rfl) e438 (by decide) (by decide) at_34 rfl ?_
      intro T440 h440 b440 X440 e440 g440 E440 A440 D440
      have n_b440 : Z.heap.size ≤ b440 := Nat.le_trans O441.1 (Nat.le_of_eq g440.symm)
      have z_b440 : h0.size ≤ b440 := Nat.le_trans (Nat.le_trans (Nat.le_trans (Nat.le_refl _) K437.1) E438.1) (Nat.le_of_eq g440.symm)
      have F440_line : Fld Z h440 b440 "com/example/tranche/tranche/journal/Entry" "line" "I" (.int (0 : Int32)) := D440 (Or.inr (tw hw 42 rfl)) (ty := .int) (by decide)
      have F440_date : Fld Z h440 b440 "com/example/tranche/tranche/journal/Entry" "date" "Ljava/time/LocalDate;" .null := D440 (Or.inr (tw hw 44 rfl)) (ty := (.object "java/time/LocalDate")) (by decide)
      have F440_recorded : Fld Z h440 b440 "com/example/tranche/tranche/journal/Entry" "recorded" "Ljava/time/LocalDate;" .null := D440 (Or.inr (tw hw 46 rfl)) (ty := (.object "java/time/LocalDate")) (by decide)
      refine Go.dup (pc' := 38) C X440 at_37 rfl rfl ?_
      refine Go.iloadN (pc' := 39) C X440 at_38 rfl rfl ?_
      refine Go.aconstNull (pc' := 40) C X440 at_39 rfl ?_
      refine Go.aconstNull (pc' := 41) C X440 at_40 rfl ?_
      have O443 : Ext Z.heap h440 := (Ext.trans O441 E440)
      refine Go.callI (y := (⟨"com/example/tranche/tranche/journal/Entry", "<init>", "(ILjava/time/LocalDate;Ljava/time/LocalDate;)V"⟩ : MethodName)) (a := b440) (pc' := 44) C X440 rfl (tw hw 32 rfl) (tw hw 33 rfl) (by decide) (rm_en l Z a0 hw b440 p4 h440 O443 A440 F440_line F440_date F440_recorded n_b440) (tw hw 34 rfl) (tw hw 31 rfl) e440 (argsL := [(.int p4), .null, .null]) (rest := [(.ref b440), (.ref b438), (.ref b438)]) (W := 3) rfl rfl pd_20 rfl (Nat.le_of_eq rfl) rfl (by decide) (by decide) (by decide) (by decide) rfl at_41 rfl ?_
      intro T442 v442 L442 X442 q442
      obtain ⟨rfl, N442q, K442⟩ := q442
      have N442 := Fr.app N437 N442q
      refine Go.iloadN (pc' := 45) C X442 at_44 rfl rfl ?_
      refine Go.iconst (z := (2 : Int32)) (pc' := 46) C X442 at_45 rfl rfl ?_
      refine Go.iand (pc' := 47) C X442 at_46 rfl ?_
      have K55 : ∀ (T444 : State) (L444 : List Loc), Stand p l e room_1 s m #[(.int p1), (.int p2), (.int p3), (.int p4)] below meth c T444 L444 4 10 → T444.heap = T442.heap → Fr Z.heap.size L444 → ∀ (y : Int32), Go p e below (Fn s room_1.cells room_1.slots (Q_law Z p1 p2 p3 p4 cP dc kd em el ea ke mr h0)) T444 (mkF m 55 #[.val (.int p1), .val (.int p2), .val (.int p3), .val (.int p4), .val (.int (5 : Int32)), .val (.int x), .val (.ref r_437), .unset, .unset, .unset] [(.int y), (.ref b440), (.ref b438), (.ref b438)]) := by
        intro T444 L444 X444 e444 N444 y
        have c446 : Exa Z T442.heap b438 "com/example/tranche/tranche/journal/DefaultRateChange" := (Exa.keep (Exa.ext E440 A438) K442)
        have ne447 : b438 ≠ b440 := Nat.ne_of_lt (Nat.lt_of_lt_of_le A438.lt (Nat.le_trans (Nat.le_refl _) (Nat.le_of_eq g440.symm)))
        have c448 : Fld Z T442.heap b438 "com/example/tranche/tranche/journal/DefaultRateChange" "entry" "Lcom/example/tranche/tranche/journal/Entry;" .null := (Fld.keep (Fld.ext E440 F438_entry) K442 (ninS ne447 nin0))
        have c449 : Fld Z T442.heap b438 "com/example/tranche/tranche/journal/DefaultRateChange" "applies" "Z" (.int (0 : Int32)) := (Fld.keep (Fld.ext E440 F438_applies) K442 (ninS ne447 nin0))
        have O450 : Ext Z.heap T442.heap := (Ext.keep O443 K442 (allS n_b440 all0))
        refine Go.callI (y := (⟨"com/example/tranche/tranche/journal/DefaultRateChange", "<init>", "(Lcom/example/tranche/tranche/journal/Entry;Z)V"⟩ : MethodName)) (a := b438) (pc' := 58) C X444 rfl (tw hw 47 rfl) (tw hw 48 rfl) (by decide) (rm_dr l Z a0 hw b438 b440 y T442.heap O450 c446 c448 c449 n_b438) (tw hw 49 rfl) (tw hw 28 rfl) e444 (argsL := [(.ref b440), (.int y)]) (rest := [(.ref b438)]) (W := 1) rfl rfl pd_21 rfl (Nat.le_of_eq rfl) rfl (by decide) (by decide) (by decide) (by decide) rfl at_55 rfl ?_
        intro T445 v445 L445 X445 q445
        obtain ⟨rfl, N445q, K445⟩ := q445
        have N445 := Fr.app N444 N445q
        refine Go.astore (Ls' := #[.val (.int p1), .val (.int p2), .val (.int p3), .val (.int p4), .val (.int (5 : Int32)), .val (.int x), .val (.ref r_437), .val (.ref b438), .unset, .unset]) (pc' := 60) C X445 at_58 rfl rfl rfl ?_
        have O452 : Ext Z.heap T445.heap := (Ext.keep O450 K445 (allS n_b438 all0))
        refine Go.newO (pc' := 63) C X445 (tw hw 55 rfl) (tw hw 56 rfl) (tw hw 57 rfl) rfl (by decide) (by decide) at_60 rfl ?_
        intro T451 h451 b451 X451 e451 g451 E451 A451 D451
        have n_b451 : Z.heap.size ≤ b451 := Nat.le_trans O452.1 (Nat.le_of_eq g451.symm)
        have z_b451 : h0.size ≤ b451 := Nat.le_trans (Nat.le_trans (Nat.le_trans (Nat.le_trans (Nat.le_trans (Nat.le_trans (Nat.le_refl _) K437.1) E438.1) E440.1) K442.1) K445.1) (Nat.le_of_eq g451.symm)
        have F451_modCount : Fld Z h451 b451 "java/util/AbstractList" "modCount" "I" (.int (0 : Int32)) := D451 (Or.inl (tw hw 75 rfl)) (ty := .int) (by decide)
        have F451_elementData : Fld Z h451 b451 "java/util/ArrayList" "elementData" "[Ljava/lang/Object;" .null := D451 (Or.inl (tw hw 78 rfl)) (ty := (.array (.object "java/lang/Object"))) (by decide)
        have F451_size : Fld Z h451 b451 "java/util/ArrayList" "size" "I" (.int (0 : Int32)) := D451 (Or.inl (tw hw 110 rfl)) (ty := .int) (by decide)
        refine Go.dup (pc' := 64) C X451 at_63 rfl rfl ?_
        have O454 : Ext Z.heap h451 := (Ext.trans O452 E451)
        refine Go.callI (y := (⟨"java/util/ArrayList", "<init>", "()V"⟩ : MethodName)) (a := b451) (pc' := 67) C X451 rfl (tw hw 58 rfl) (tw hw 59 rfl) (by decide) (rm_alI l Z a0 hw b451 dc h451 O454 A451 F451_modCount F451_elementData F451_size SD n_b451) (tw hw 60 rfl) (tw hw 57 rfl) e451 (argsL := []) (rest := [(.ref b451)]) (W := 1) rfl rfl pd_3 rfl (Nat.le_of_eq rfl) rfl (by decide) (by decide) (by decide) (by decide) rfl at_64 rfl ?_
        intro T453 v453 L453 X453 q453
        obtain ⟨rfl, N453q, K453, P453_0, P453_1, P453_2⟩ := q453
        have N453 := Fr.app N445 N453q
        refine Go.astore (Ls' := #[.val (.int p1), .val (.int p2), .val (.int p3), .val (.int p4), .val (.int (5 : Int32)), .val (.int x), .val (.ref r_437), .val (.ref b438), .val (.ref b451), .unset]) (pc' := 69) C X453 at_67 rfl rfl rfl ?_
        refine Go.iload (pc' := 71) C X453 at_69 rfl rfl ?_
        refine Go.ifNo (pc' := 74) C X453 at_71 ((if0 _ _).trans (tlt (x := (0 : Int32)) (y := (5 : Int32)) (by decide)).2.2.2) rfl ?_
        refine Go.aload (pc' := 76) C X453 at_74 rfl rfl rfl ?_
        refine Go.aload (pc' := 78) C X453 at_76 rfl rfl rfl ?_
        have c457 : Exa Z T453.heap b451 "java/util/ArrayList" := (Exa.keep A451 K453)
        have c458 : Exa Z T453.heap b438 "com/example/tranche/tranche/journal/DefaultRateChange" := (Exa.keep (Exa.ext E451 (Exa.keep c446 K445)) K453)
        have O459 : Ext Z.heap T453.heap := (Ext.keep O454 K453 (allS n_b451 all0))
        refine Go.callV (y := (⟨"java/util/ArrayList", "add", "(Ljava/lang/Object;)Z"⟩ : MethodName)) (z := (⟨"java/util/ArrayList", "add", "(Ljava/lang/Object;)Z"⟩ : MethodName)) (a := b451) (pc' := 81) C X453 (tw hw 121 rfl) (tw hw 122 rfl) (notFace_at C.2.1 (tw hw 124 rfl)) (tw hw 124 rfl) (tw hw 123 rfl) c457 (by decide) (rm_add0 l Z a0 hw b451 b438 dc kd ((0 : Int32)) T453.heap O459 c457 c458 P453_0 P453_1 P453_2 SD AD n_b451) (tw hw 125 rfl) (tw hw 57 rfl) rfl (argsL := [(.ref b438)]) (rest := []) (W := 0) rfl rfl pd_23 rfl (Nat.le_of_eq rfl) rfl (by decide) (by decide) (by decide) (by decide) at_78 rfl ?_
        intro T456 v456 L456 X456 q456
        obtain ⟨w_456, kw_456, rfl, N456q, K456, B456_0, P456_0, P456_1, P456_2, P456_3, P456_4, p456_0⟩ := q456
        have N456 := Fr.app N453 N456q
        have n_w_456 : Z.heap.size ≤ w_456 := Nat.le_trans O459.1 B456_0
        have z_w_456 : h0.size ≤ w_456 := Nat.le_trans (Nat.le_trans (Nat.le_trans (Nat.le_trans (Nat.le_trans (Nat.le_trans (Nat.le_trans (Nat.le_trans (Nat.le_refl _) K437.1) E438.1) E440.1) K442.1) K445.1) E451.1) K453.1) B456_0
        refine Go.pop (pc' := 82) C X456 at_81 rfl rfl ?_
        refine Go.iload (pc' := 84) C X456 at_82 rfl rfl ?_
        refine Go.iconst (z := (1 : Int32)) (pc' := 85) C X456 at_84 rfl rfl ?_
        refine Go.icmpNo (pc' := 88) C X456 at_85 (tlt (x := (1 : Int32)) (y := (5 : Int32)) (by decide)).2.2.2 rfl ?_
        refine Go.aload (pc' := 90) C X456 at_88 rfl rfl rfl ?_
        refine Go.aload (pc' := 92) C X456 at_90 rfl rfl rfl ?_
        have c462 : Exa Z T456.heap b451 "java/util/ArrayList" := (Exa.keep c457 K456)
        have c463 : Exa Z T456.heap b438 "com/example/tranche/tranche/journal/DefaultRateChange" := (Exa.keep c458 K456)
        have O464 : Ext Z.heap T456.heap := (Ext.keep O459 K456 (allS n_b451 all0))
        refine Go.callV (y := (⟨"java/util/ArrayList", "add", "(Ljava/lang/Object;)Z"⟩ : MethodName)) (z := (⟨"java/util/ArrayList", "add", "(Ljava/lang/Object;)Z"⟩ : MethodName)) (a := b451) (pc' := 95) C X456 (tw hw 121 rfl) (tw hw 122 rfl) (notFace_at C.2.1 (tw hw 124 rfl)) (tw hw 124 rfl) (tw hw 123 rfl) c462 (by decide) (rm_add1 l Z a0 hw b451 b438 w_456 kw_456 (((0 : Int32) + (1 : Int32))) T456.heap O464 c462 c463 P456_0 P456_1 P456_2 P456_4 P456_3 n_b451 n_w_456 p456_0) (tw hw 125 rfl) (tw hw 57 rfl) rfl (argsL := [(.ref b438)]) (rest := []) (W := 0) rfl rfl pd_23 rfl (Nat.le_of_eq rfl) rfl (by decide) (by decide) (by decide) (by decide) at_92 rfl ?_
        intro T461 v461 L461 X461 q461
        obtain ⟨rfl, N461q, K461, P461_0, P461_1, P461_2, P461_3⟩ := q461
        have N461 := Fr.app N456 N461q
        refine Go.pop (pc' := 96) C X461 at_95 rfl rfl ?_
        refine Go.iload (pc' := 98) C X461 at_96 rfl rfl ?_
        refine Go.iconst (z := (2 : Int32)) (pc' := 99) C X461 at_98 rfl rfl ?_
        refine Go.icmpNo (pc' := 102) C X461 at_99 (tlt (x := (2 : Int32)) (y := (5 : Int32)) (by decide)).2.2.2 rfl ?_
        refine Go.aload (pc' := 104) C X461 at_102 rfl rfl rfl ?_
        refine Go.aload (pc' := 106) C X461 at_104 rfl rfl rfl ?_
        have c467 : Exa Z T461.heap b451 "java/util/ArrayList" := (Exa.keep c462 K461)
        have c468 : Exa Z T461.heap b438 "com/example/tranche/tranche/journal/DefaultRateChange" := (Exa.keep c463 K461)
        have c469 : Exa Z T461.heap w_456 "[Ljava/lang/Object;" := (Exa.keep P456_4 K461)
        have O470 : Ext Z.heap T461.heap := (Ext.keep O464 K461 (allS n_b451 (allS n_w_456 all0)))
        refine Go.callV (y := (⟨"java/util/ArrayList", "add", "(Ljava/lang/Object;)Z"⟩ : MethodName)) (z := (⟨"java/util/ArrayList", "add", "(Ljava/lang/Object;)Z"⟩ : MethodName)) (a := b451) (pc' := 109) C X461 (tw hw 121 rfl) (tw hw 122 rfl) (notFace_at C.2.1 (tw hw 124 rfl)) (tw hw 124 rfl) (tw hw 123 rfl) c467 (by decide) (rm_add2 l Z a0 hw b451 b438 w_456 kw_456 ((((0 : Int32) + (1 : Int32)) + (1 : Int32))) T461.heap O470 c467 c468 P461_0 P461_1 P461_2 c469 P461_3 n_b451 n_w_456 p456_0) (tw hw 125 rfl) (tw hw 57 rfl) rfl (argsL := [(.ref b438)]) (rest := []) (W := 0) rfl rfl pd_23 rfl (Nat.le_of_eq rfl) rfl (by decide) (by decide) (by decide) (by decide) at_106 rfl ?_
        intro T466 v466 L466 X466 q466
        obtain ⟨rfl, N466q, K466, P466_0, P466_1, P466_2, P466_3⟩ := q466
        have N466 := Fr.app N461 N466q
        refine Go.pop (pc' := 110) C X466 at_109 rfl rfl ?_
        refine Go.iload (pc' := 112) C X466 at_110 rfl rfl ?_
        refine Go.iconst (z := (3 : Int32)) (pc' := 113) C X466 at_112 rfl rfl ?_
        refine Go.icmpNo (pc' := 116) C X466 at_113 (tlt (x := (3 : Int32)) (y := (5 : Int32)) (by decide)).2.2.2 rfl ?_
        refine Go.aload (pc' := 118) C X466 at_116 rfl rfl rfl ?_
        refine Go.aload (pc' := 120) C X466 at_118 rfl rfl rfl ?_
        have c473 : Exa Z T466.heap b451 "java/util/ArrayList" := (Exa.keep c467 K466)
        have c474 : Exa Z T466.heap b438 "com/example/tranche/tranche/journal/DefaultRateChange" := (Exa.keep c468 K466)
        have c475 : Exa Z T466.heap w_456 "[Ljava/lang/Object;" := (Exa.keep c469 K466)
        have O476 : Ext Z.heap T466.heap := (Ext.keep O470 K466 (allS n_b451 (allS n_w_456 all0)))
        refine Go.callV (y := (⟨"java/util/ArrayList", "add", "(Ljava/lang/Object;)Z"⟩ : MethodName)) (z := (⟨"java/util/ArrayList", "add", "(Ljava/lang/Object;)Z"⟩ : MethodName)) (a := b451) (pc' := 123) C X466 (tw hw 121 rfl) (tw hw 122 rfl) (notFace_at C.2.1 (tw hw 124 rfl)) (tw hw 124 rfl) (tw hw 123 rfl) c473 (by decide) (rm_add3 l Z a0 hw b451 b438 w_456 kw_456 (((((0 : Int32) + (1 : Int32)) + (1 : Int32)) + (1 : Int32))) T466.heap O476 c473 c474 P466_0 P466_1 P466_2 c475 P466_3 n_b451 n_w_456 p456_0) (tw hw 125 rfl) (tw hw 57 rfl) rfl (argsL := [(.ref b438)]) (rest := []) (W := 0) rfl rfl pd_23 rfl (Nat.le_of_eq rfl) rfl (by decide) (by decide) (by decide) (by decide) at_120 rfl ?_
        intro T472 v472 L472 X472 q472
        obtain ⟨rfl, N472q, K472, P472_0, P472_1, P472_2, P472_3⟩ := q472
        have N472 := Fr.app N466 N472q
        refine Go.pop (pc' := 124) C X472 at_123 rfl rfl ?_
        refine Go.iload (pc' := 126) C X472 at_124 rfl rfl ?_
        refine Go.iconst (z := (4 : Int32)) (pc' := 127) C X472 at_126 rfl rfl ?_
        refine Go.icmpNo (pc' := 130) C X472 at_127 (tlt (x := (4 : Int32)) (y := (5 : Int32)) (by decide)).2.2.2 rfl ?_
        refine Go.aload (pc' := 132) C X472 at_130 rfl rfl rfl ?_
        refine Go.aload (pc' := 134) C X472 at_132 rfl rfl rfl ?_
        have c479 : Exa Z T472.heap b451 "java/util/ArrayList" := (Exa.keep c473 K472)
        have c480 : Exa Z T472.heap b438 "com/example/tranche/tranche/journal/DefaultRateChange" := (Exa.keep c474 K472)
        have c481 : Exa Z T472.heap w_456 "[Ljava/lang/Object;" := (Exa.keep c475 K472)
        have O482 : Ext Z.heap T472.heap := (Ext.keep O476 K472 (allS n_b451 (allS n_w_456 all0)))
        refine Go.callV (y := (⟨"java/util/ArrayList", "add", "(Ljava/lang/Object;)Z"⟩ : MethodName)) (z := (⟨"java/util/ArrayList", "add", "(Ljava/lang/Object;)Z"⟩ : MethodName)) (a := b451) (pc' := 137) C X472 (tw hw 121 rfl) (tw hw 122 rfl) (notFace_at C.2.1 (tw hw 124 rfl)) (tw hw 124 rfl) (tw hw 123 rfl) c479 (by decide) (rm_add4 l Z a0 hw b451 b438 w_456 kw_456 ((((((0 : Int32) + (1 : Int32)) + (1 : Int32)) + (1 : Int32)) + (1 : Int32))) T472.heap O482 c479 c480 P472_0 P472_1 P472_2 c481 P472_3 n_b451 n_w_456 p456_0) (tw hw 125 rfl) (tw hw 57 rfl) rfl (argsL := [(.ref b438)]) (rest := []) (W := 0) rfl rfl pd_23 rfl (Nat.le_of_eq rfl) rfl (by decide) (by decide) (by decide) (by decide) at_134 rfl ?_
        intro T478 v478 L478 X478 q478
        obtain ⟨rfl, N478q, K478, P478_0, P478_1, P478_2, P478_3⟩ := q478
        have N478 := Fr.app N472 N478q
        refine Go.pop (pc' := 138) C X478 at_137 rfl rfl ?_
        refine Go.iload (pc' := 140) C X478 at_138 rfl rfl ?_
        refine Go.iconst (z := (5 : Int32)) (pc' := 141) C X478 at_140 rfl rfl ?_
        refine Go.icmpYes (pc' := 152) C X478 at_141 (flt (x := (5 : Int32)) (y := (5 : Int32)) (by decide)).2.2.2 (by decide) (by decide) ?_
        refine Go.iload (pc' := 154) C X478 at_152 rfl rfl ?_
        refine Go.bipush (z := (6 : Int32)) (pc' := 156) C X478 at_154 rfl rfl ?_
        refine Go.icmpYes (pc' := 167) C X478 at_156 (flt (x := (6 : Int32)) (y := (5 : Int32)) (by decide)).2.2.2 (by decide) (by decide) ?_
        have O486 : Ext Z.heap T478.heap := (Ext.keep O482 K478 (allS n_b451 (allS n_w_456 all0)))
        refine Go.newO (pc' := 170) C X478 (tw hw 79 rfl) (tw hw 80 rfl) (tw hw 81 rfl) rfl (by decide) (by decide) at_167 rfl ?_
        intro T485 h485 b485 X485 e485 g485 E485 A485 D485
        have n_b485 : Z.heap.size ≤ b485 := Nat.le_trans O486.1 (Nat.le_of_eq g485.symm)
        have z_b485 : h0.size ≤ b485 := Nat.le_trans (Nat.le_trans (Nat.le_trans (Nat.le_trans (Nat.le_trans (Nat.le_trans (Nat.le_trans (Nat.le_trans (Nat.le_trans (Nat.le_trans (Nat.le_trans (Nat.le_trans (Nat.le_trans (Nat.le_refl _) K437.1) E438.1) E440.1) K442.1) K445.1) E451.1) K453.1) K456.1) K461.1) K466.1) K472.1) K478.1) (Nat.le_of_eq g485.symm)
        have F485_source : Fld Z h485 b485 "com/example/tranche/tranche/journal/Journal" "source" "Ljava/lang/String;" .null := D485 (Or.inr (tw hw 116 rfl)) (ty := (.object "java/lang/String")) (by decide)
        have F485_events : Fld Z h485 b485 "com/example/tranche/tranche/journal/Journal" "events" "Ljava/util/List;" .null := D485 (Or.inr (tw hw 118 rfl)) (ty := (.object "java/util/List")) (by decide)
        have F485_incomplete : Fld Z h485 b485 "com/example/tranche/tranche/journal/Journal" "incomplete" "Z" (.int (0 : Int32)) := D485 (Or.inr (tw hw 120 rfl)) (ty := .boolean) (by decide)
        refine Go.dup (pc' := 171) C X485 at_170 rfl rfl ?_
        refine Go.aload (pc' := 173) C X485 at_171 rfl rfl rfl ?_
        refine Go.aload (pc' := 175) C X485 at_173 rfl rfl rfl ?_
        refine Go.iload (pc' := 177) C X485 at_175 rfl rfl ?_
        have c488 : Exa Z h485 b451 "java/util/ArrayList" := (Exa.ext E485 (Exa.keep c479 K478))
        have c489 : Fld Z h485 b451 "java/util/ArrayList" "elementData" "[Ljava/lang/Object;" (.ref w_456) := (Fld.ext E485 P478_1)
        have c490 : Fld Z h485 b451 "java/util/ArrayList" "size" "I" (.int (5 : Int32)) := (Fld.ext E485 P478_2)
        have c491 : Exa Z h485 w_456 "[Ljava/lang/Object;" := (Exa.ext E485 (Exa.keep c481 K478))
        have c492 : AL Z h485 w_456 kw_456 (.object "java/lang/Object") [(.ref b438), (.ref b438), (.ref b438), (.ref b438), (.ref b438), .null, .null, .null, .null, .null] := (AL.ext E485 P478_3)
        have c493 : Exa Z h485 b438 "com/example/tranche/tranche/journal/DefaultRateChange" := (Exa.ext E485 (Exa.keep c480 K478))
        have O494 : Ext Z.heap h485 := (Ext.trans O486 E485)
        refine Go.callI (y := (⟨"com/example/tranche/tranche/journal/Journal", "<init>", "(Ljava/lang/String;Ljava/util/List;Z)V"⟩ : MethodName)) (a := b485) (pc' := 180) C X485 rfl (tw hw 82 rfl) (tw hw 83 rfl) (by decide) (rm_jI5 l Z a0 hw b485 r_437 x b451 b438 w_456 kw_456 mr h485 O494 A485 F485_source F485_events F485_incomplete c488 c489 c490 c491 c492 c493 hM n_b485) (tw hw 84 rfl) (tw hw 81 rfl) e485 (argsL := [(.ref r_437), (.ref b451), (.int x)]) (rest := [(.ref b485)]) (W := 1) rfl rfl pd_22 rfl (Nat.le_of_eq rfl) rfl (by decide) (by decide) (by decide) (by decide) rfl at_177 rfl ?_
        intro T487 v487 L487 X487 q487
        obtain ⟨r_487, q_487, kq_487, rfl, N487q, K487, B487_0, B487_1, P487_0, P487_1, P487_2, P487_3⟩ := q487
        have N487 := Fr.app N478 N487q
        have n_r_487 : Z.heap.size ≤ r_487 := Nat.le_trans O494.1 B487_0
        have z_r_487 : h0.size ≤ r_487 := Nat.le_trans (Nat.le_trans (Nat.le_trans (Nat.le_trans (Nat.le_trans (Nat.le_trans (Nat.le_trans (Nat.le_trans (Nat.le_trans (Nat.le_trans (Nat.le_trans (Nat.le_trans (Nat.le_trans (Nat.le_trans (Nat.le_refl _) K437.1) E438.1) E440.1) K442.1) K445.1) E451.1) K453.1) K456.1) K461.1) K466.1) K472.1) K478.1) E485.1) B487_0
        have n_q_487 : Z.heap.size ≤ q_487 := Nat.le_trans O494.1 B487_1
        have z_q_487 : h0.size ≤ q_487 := Nat.le_trans (Nat.le_trans (Nat.le_trans (Nat.le_trans (Nat.le_trans (Nat.le_trans (Nat.le_trans (Nat.le_trans (Nat.le_trans (Nat.le_trans (Nat.le_trans (Nat.le_trans (Nat.le_trans (Nat.le_trans (Nat.le_refl _) K437.1) E438.1) E440.1) K442.1) K445.1) E451.1) K453.1) K456.1) K461.1) K466.1) K472.1) K478.1) E485.1) B487_1
        refine Go.astore (Ls' := #[.val (.int p1), .val (.int p2), .val (.int p3), .val (.int p4), .val (.int (5 : Int32)), .val (.int x), .val (.ref r_437), .val (.ref b438), .val (.ref b451), .val (.ref b485)]) (pc' := 182) C X487 at_180 rfl rfl rfl ?_
        refine Go.aload (pc' := 184) C X487 at_182 rfl rfl rfl ?_
        refine Go.aload (pc' := 186) C X487 at_184 rfl rfl rfl ?_
        have c496 : Exa Z T487.heap b451 "java/util/ArrayList" := (Exa.keep c488 K487)
        have c497 : Exa Z T487.heap b438 "com/example/tranche/tranche/journal/DefaultRateChange" := (Exa.keep c493 K487)
        have ne498 : b451 ≠ b485 := Nat.ne_of_lt (Nat.lt_of_lt_of_le A451.lt (Nat.le_trans (Nat.le_trans (Nat.le_trans (Nat.le_trans (Nat.le_trans (Nat.le_trans (Nat.le_trans (Nat.le_refl _) K453.1) K456.1) K461.1) K466.1) K472.1) K478.1) (Nat.le_of_eq g485.symm)))
        have c499 : Fld Z T487.heap b451 "java/util/AbstractList" "modCount" "I" (.int ((((((0 : Int32) + (1 : Int32)) + (1 : Int32)) + (1 : Int32)) + (1 : Int32)) + (1 : Int32))) := (Fld.keep (Fld.ext E485 P478_0) K487 (ninS ne498 nin0))
        have c500 : Fld Z T487.heap b451 "java/util/ArrayList" "elementData" "[Ljava/lang/Object;" (.ref w_456) := (Fld.keep c489 K487 (ninS ne498 nin0))
        have c501 : Fld Z T487.heap b451 "java/util/ArrayList" "size" "I" (.int (5 : Int32)) := (Fld.keep c490 K487 (ninS ne498 nin0))
        have c502 : Exa Z T487.heap w_456 "[Ljava/lang/Object;" := (Exa.keep c491 K487)
        have ne503 : w_456 ≠ b485 := Nat.ne_of_lt (Nat.lt_of_lt_of_le P456_3.lt (Nat.le_trans (Nat.le_trans (Nat.le_trans (Nat.le_trans (Nat.le_trans (Nat.le_refl _) K461.1) K466.1) K472.1) K478.1) (Nat.le_of_eq g485.symm)))
        have c504 : AL Z T487.heap w_456 kw_456 (.object "java/lang/Object") [(.ref b438), (.ref b438), (.ref b438), (.ref b438), (.ref b438), .null, .null, .null, .null, .null] := (AL.keep c492 K487 (ninS ne503 nin0))
        have O505 : Ext Z.heap T487.heap := (Ext.keep O494 K487 (allS n_b485 all0))
        refine Go.callV (y := (⟨"java/util/ArrayList", "add", "(Ljava/lang/Object;)Z"⟩ : MethodName)) (z := (⟨"java/util/ArrayList", "add", "(Ljava/lang/Object;)Z"⟩ : MethodName)) (a := b451) (pc' := 189) C X487 (tw hw 121 rfl) (tw hw 122 rfl) (notFace_at C.2.1 (tw hw 124 rfl)) (tw hw 124 rfl) (tw hw 123 rfl) c496 (by decide) (rm_add5 l Z a0 hw b451 b438 w_456 kw_456 (((((((0 : Int32) + (1 : Int32)) + (1 : Int32)) + (1 : Int32)) + (1 : Int32)) + (1 : Int32))) T487.heap O505 c496 c497 c499 c500 c501 c502 c504 n_b451 n_w_456 p456_0) (tw hw 125 rfl) (tw hw 57 rfl) rfl (argsL := [(.ref b438)]) (rest := []) (W := 0) rfl rfl pd_23 rfl (Nat.le_of_eq rfl) rfl (by decide) (by decide) (by decide) (by decide) at_186 rfl ?_
        intro T495 v495 L495 X495 q495
        obtain ⟨rfl, N495q, K495, P495_0, P495_1, P495_2, P495_3⟩ := q495
        have N495 := Fr.app N487 N495q
        refine Go.pop (pc' := 190) C X495 at_189 rfl rfl ?_
        refine Go.aload (pc' := 192) C X495 at_190 rfl rfl rfl ?_
        have c507 : Fld Z T495.heap b485 "com/example/tranche/tranche/journal/Journal" "events" "Ljava/util/List;" (.ref r_487) := (Fld.keep P487_0 K495 (ninS (Ne.symm ne498) (ninS (Ne.symm ne503) nin0)))
        have c508 : Exa Z T495.heap r_487 "java/util/ImmutableCollections$ListN" := (Exa.keep P487_1 K495)
        have ne509 : r_487 ≠ w_456 := (Nat.ne_of_gt (Nat.lt_of_lt_of_le P456_3.lt (Nat.le_trans (Nat.le_trans (Nat.le_trans (Nat.le_trans (Nat.le_trans (Nat.le_trans (Nat.le_refl _) K461.1) K466.1) K472.1) K478.1) E485.1) B487_0)))
        have ne510 : r_487 ≠ b451 := (Nat.ne_of_gt (Nat.lt_of_lt_of_le A451.lt (Nat.le_trans (Nat.le_trans (Nat.le_trans (Nat.le_trans (Nat.le_trans (Nat.le_trans (Nat.le_trans (Nat.le_trans (Nat.le_refl _) K453.1) K456.1) K461.1) K466.1) K472.1) K478.1) E485.1) B487_0)))
        have c511 : Fld Z T495.heap r_487 "java/util/ImmutableCollections$ListN" "elements" "[Ljava/lang/Object;" (.ref q_487) := (Fld.keep P487_2 K495 (ninS ne510 (ninS ne509 nin0)))
        have ne512 : q_487 ≠ w_456 := (Nat.ne_of_gt (Nat.lt_of_lt_of_le P456_3.lt (Nat.le_trans (Nat.le_trans (Nat.le_trans (Nat.le_trans (Nat.le_trans (Nat.le_trans (Nat.le_refl _) K461.1) K466.1) K472.1) K478.1) E485.1) B487_1)))
        have ne513 : q_487 ≠ b451 := (Nat.ne_of_gt (Nat.lt_of_lt_of_le A451.lt (Nat.le_trans (Nat.le_trans (Nat.le_trans (Nat.le_trans (Nat.le_trans (Nat.le_trans (Nat.le_trans (Nat.le_trans (Nat.le_refl _) K453.1) K456.1) K461.1) K466.1) K472.1) K478.1) E485.1) B487_1)))
        have c514 : AL Z T495.heap q_487 kq_487 (.object "java/lang/Object") [(.ref b438), (.ref b438), (.ref b438), (.ref b438), (.ref b438)] := (AL.keep P487_3 K495 (ninS ne513 (ninS ne512 nin0)))
        have O515 : Ext Z.heap T495.heap := (Ext.keep O505 K495 (allS n_b451 (allS n_w_456 all0)))
        have c516 : Exa Z T495.heap b485 "com/example/tranche/tranche/journal/Journal" := (Exa.keep (Exa.keep A485 K487) K495)
        refine Go.callV (y := (⟨"com/example/tranche/tranche/journal/Journal", "nextLine", "()I"⟩ : MethodName)) (z := (⟨"com/example/tranche/tranche/journal/Journal", "nextLine", "()I"⟩ : MethodName)) (a := b485) (pc' := 195) C X495 (tw hw 150 rfl) (tw hw 151 rfl) (notFace_at C.2.1 (tw hw 153 rfl)) (tw hw 153 rfl) (tw hw 152 rfl) c516 (by decide) (rm_nl5 l Z a0 hw b485 r_487 q_487 kq_487 b438 T495.heap O515 c507 c508 c511 c514) (tw hw 154 rfl) (tw hw 81 rfl) rfl (argsL := []) (rest := []) (W := 0) rfl rfl pd_18 rfl (Nat.le_of_eq rfl) rfl (by decide) (by decide) (by decide) (by decide) at_192 rfl ?_
        intro T506 v506 L506 X506 q506
        obtain ⟨rfl, rfl, e506⟩ := q506
        have N506 := Fr.app N495 (Fr.nil _)
        refine Go.iload (pc' := 197) C X506 at_195 rfl rfl ?_
        refine Go.iconst (z := (1 : Int32)) (pc' := 198) C X506 at_197 rfl rfl ?_
        refine Go.iadd (pc' := 199) C X506 at_198 rfl ?_
        rw [show ((5 : Int32) + (1 : Int32)) = (6 : Int32) from by decide]
        refine Go.icmpNo (pc' := 202) C X506 at_199 (teq (x := (6 : Int32)) (y := (6 : Int32)) (by decide)).2 rfl ?_
        refine Go.iconst (z := (1 : Int32)) (pc' := 203) C X506 at_202 rfl rfl ?_
        refine Go.goto (pc' := 207) C X506 at_203 (by decide) (by decide) ?_
        have K518 : Keep h0 T495.heap [] := ((((((((((((((((Keep.refl h0 []).trans K437 all0).ext E438).ext E440).trans K442 (allS (Or.inr z_b440) all0)).trans K445 (allS (Or.inr z_b438) all0)).ext E451).trans K453 (allS (Or.inr z_b451) all0)).trans K456 (allS (Or.inr z_b451) all0)).trans K461 (allS (Or.inr z_b451) (allS (Or.inr z_w_456) all0))).trans K466 (allS (Or.inr z_b451) (allS (Or.inr z_w_456) all0))).trans K472 (allS (Or.inr z_b451) (allS (Or.inr z_w_456) all0))).trans K478 (allS (Or.inr z_b451) (allS (Or.inr z_w_456) all0))).ext E485).trans K487 (allS (Or.inr z_b485) all0)).trans K495 (allS (Or.inr z_b451) (allS (Or.inr z_w_456) all0)))
        exact Go.retN C X506 rfl at_207 (by simp) (by rw [e506]; exact ⟨rfl, N506, K518⟩) (by decide) (by decide)
      by_cases hc47_519 : (p2 &&& (2 : Int32)) = (0 : Int32)
      · refine Go.ifYes (pc' := 54) C X442 at_47 ((if0 _ _).trans (teq (x := (p2 &&& (2 : Int32))) (y := (0 : Int32)) hc47_519).1) (by decide) (by decide) ?_
        refine Go.iconst (z := (0 : Int32)) (pc' := 55) C X442 at_54 rfl rfl ?_
        exact K55 _ _ X442 rfl N442 (0 : Int32) 
      · refine Go.ifNo (pc' := 50) C X442 at_47 ((if0 _ _).trans (feq (x := (p2 &&& (2 : Int32))) (y := (0 : Int32)) hc47_519).1) rfl ?_
        refine Go.iconst (z := (1 : Int32)) (pc' := 51) C X442 at_50 rfl rfl ?_
        refine Go.goto (pc' := 55) C X442 at_51 (by decide) (by decide) ?_
        exact K55 _ _ X442 rfl N442 (1 : Int32) 
    by_cases hc9_520 : (p2 &&& (1 : Int32)) = (0 : Int32)
    · refine Go.ifYes (pc' := 16) C X0 at_9 ((if0 _ _).trans (teq (x := (p2 &&& (1 : Int32))) (y := (0 : Int32)) hc9_520).1) (by decide) (by decide) ?_
      refine Go.iconst (z := (0 : Int32)) (pc' := 17) C X0 at_16 rfl rfl ?_
      exact K17 _ _ X0 e0 N0 (0 : Int32) 
    · refine Go.ifNo (pc' := 12) C X0 at_9 ((if0 _ _).trans (feq (x := (p2 &&& (1 : Int32))) (y := (0 : Int32)) hc9_520).1) rfl ?_
      refine Go.iconst (z := (1 : Int32)) (pc' := 13) C X0 at_12 rfl rfl ?_
      refine Go.goto (pc' := 17) C X0 at_13 (by decide) (by decide) ?_
      exact K17 _ _ X0 e0 N0 (1 : Int32) 
  · rw [hl]
    refine Go.iloadN (pc' := 7) C X0 at_6 rfl rfl ?_
    refine Go.iconst (z := (1 : Int32)) (pc' := 8) C X0 at_7 rfl rfl ?_
    refine Go.iand (pc' := 9) C X0 at_8 rfl ?_
    have K17 : ∀ (T521 : State) (L521 : List Loc), Stand p l e room_1 s m #[(.int p1), (.int p2), (.int p3), (.int p4)] below meth c T521 L521 0 0 → T521.heap = h0 → Fr Z.heap.size L521 → ∀ (x : Int32), Go p e below (Fn s room_1.cells room_1.slots (Q_law Z p1 p2 p3 p4 cP dc kd em el ea ke mr h0)) T521 (mkF m 17 #[.val (.int p1), .val (.int p2), .val (.int p3), .val (.int p4), .val (.int (6 : Int32)), .unset, .unset, .unset, .unset, .unset] [(.int x)]) := by
      intro T521 L521 X521 e521 N521 x
      refine Go.istore (Ls' := #[.val (.int p1), .val (.int p2), .val (.int p3), .val (.int p4), .val (.int (6 : Int32)), .val (.int x), .unset, .unset, .unset, .unset]) (pc' := 19) C X521 at_17 rfl rfl ?_
      refine Go.iloadN (pc' := 20) C X521 at_19 rfl rfl ?_
      refine Go.sipush (z := (255 : Int32)) (pc' := 23) C X521 at_20 rfl rfl ?_
      refine Go.iand (pc' := 24) C X521 at_23 rfl ?_
      refine Go.i2c (pc' := 25) C X521 at_24 rfl ?_
      refine Go.callS (y := (⟨"java/lang/String", "valueOf", "(C)Ljava/lang/String;"⟩ : MethodName)) (pc' := 28) C X521 (tw hw 0 rfl) (tw hw 1 rfl) (by decide) (rm_vc l Z a0 hw (((p3 &&& (255 : Int32)).toUInt32.toUInt16.toUInt32.toInt32)) cP h0 O0 SC (own_c255 p3) hP) (tw hw 3 rfl) (tw hw 2 rfl) e521 (argsL := [(.int ((p3 &&& (255 : Int32)).toUInt32.toUInt16.toUInt32.toInt32))]) (rest := []) (W := 0) rfl rfl pd_19 rfl (Nat.le_of_eq rfl) rfl (by decide) (by decide) (by decide) (by decide) at_25 rfl ?_
      intro T522 v522 L522 X522 q522
      obtain ⟨r_522, rfl, N522q, K522, B522_0, P522_0⟩ := q522
      have N522 := Fr.app N521 N522q
      have n_r_522 : Z.heap.size ≤ r_522 := Nat.le_trans O0.1 B522_0
      have z_r_522 : h0.size ≤ r_522 := Nat.le_trans (Nat.le_refl _) B522_0
      refine Go.astore (Ls' := #[.val (.int p1), .val (.int p2), .val (.int p3), .val (.int p4), .val (.int (6 : Int32)), .val (.int x), .val (.ref r_522), .unset, .unset, .unset]) (pc' := 30) C X522 at_28 rfl rfl rfl ?_
      have O524 : Ext Z.heap T522.heap := (Ext.keep O0 K522 all0)
      refine Go.newO (pc' := 33) C X522 (tw hw 26 rfl) (tw hw 27 rfl) (tw hw 28 rfl) rfl (by decide) (by decide) at_30 rfl ?_
      intro T523 h523 b523 X523 e523 g523 E523 A523 D523
      have n_b523 : Z.heap.size ≤ b523 := Nat.le_trans O524.1 (Nat.le_of_eq g523.symm)
      have z_b523 : h0.size ≤ b523 := Nat.le_trans (Nat.le_trans (Nat.le_refl _) K522.1) (Nat.le_of_eq g523.symm)
      have F523_entry : Fld Z h523 b523 "com/example/tranche/tranche/journal/DefaultRateChange" "entry" "Lcom/example/tranche/tranche/journal/Entry;" .null := D523 (Or.inr (tw hw 52 rfl)) (ty := (.object "com/example/tranche/tranche/journal/Entry")) (by decide)
      have F523_applies : Fld Z h523 b523 "com/example/tranche/tranche/journal/DefaultRateChange" "applies" "Z" (.int (0 : Int32)) := D523 (Or.inr (tw hw 54 rfl)) (ty := .boolean) (by decide)
      refine Go.dup (pc' := 34) C X523 at_33 rfl rfl ?_
      have O526 : Ext Z.heap h523 := (Ext.trans O524 E523)
      refine Go.newO (pc' := 37) C X523 (tw hw 29 rfl) (tw hw 30 rfl) (tw hw 31 rfl) e523 (by decide) (by decide) at_34 rfl ?_
      intro T525 h525 b525 X525 e525 g525 E525 A525 D525
      have n_b525 : Z.heap.size ≤ b525 := Nat.le_trans O526.1 (Nat.le_of_eq g525.symm)
      have z_b525 : h0.size ≤ b525 := Nat.le_trans (Nat.le_trans (Nat.le_trans (Nat.le_refl _) K522.1) E523.1) (Nat.le_of_eq g525.symm)
      have F525_line : Fld Z h525 b525 "com/example/tranche/tranche/journal/Entry" "line" "I" (.int (0 : Int32)) := D525 (Or.inr (tw hw 42 rfl)) (ty := .int) (by decide)
      have F525_date : Fld Z h525 b525 "com/example/tranche/tranche/journal/Entry" "date" "Ljava/time/LocalDate;" .null := D525 (Or.inr (tw hw 44 rfl)) (ty := (.object "java/time/LocalDate")) (by decide)
      have F525_recorded : Fld Z h525 b525 "com/example/tranche/tranche/journal/Entry" "recorded" "Ljava/time/LocalDate;" .null := D525 (Or.inr (tw hw 46 rfl)) (ty := (.object "java/time/LocalDate")) (by decide)
      refine Go.dup (pc' := 38) C X525 at_37 rfl rfl ?_
      refine Go.iloadN (pc' := 39) C X525 at_38 rfl rfl ?_
      refine Go.aconstNull (pc' := 40) C X525 at_39 rfl ?_
      refine Go.aconstNull (pc' := 41) C X525 at_40 rfl ?_
      have O528 : Ext Z.heap h525 := (Ext.trans O526 E525)
      refine Go.callI (y := (⟨"com/example/tranche/tranche/journal/Entry", "<init>", "(ILjava/time/LocalDate;Ljava/time/LocalDate;)V"⟩ : MethodName)) (a := b525) (pc' := 44) C X525 rfl (tw hw 32 rfl) (tw hw 33 rfl) (by decide) (rm_en l Z a0 hw b525 p4 h525 O528 A525 F525_line F525_date F525_recorded n_b525) (tw hw 34 rfl) (tw hw 31 rfl) e525 (argsL := [(.int p4), .null, .null]) (rest := [(.ref b525), (.ref b523), (.ref b523)]) (W := 3) rfl rfl pd_20 rfl (Nat.le_of_eq rfl) rfl (by decide) (by decide) (by decide) (by decide) rfl at_41 rfl ?_
      intro T527 v527 L527 X527 q527
      obtain ⟨rfl, N527q, K527⟩ := q527
      have N527 := Fr.app N522 N527q
      refine Go.iloadN (pc' := 45) C X527 at_44 rfl rfl ?_
      refine Go.iconst (z := (2 : Int32)) (pc' := 46) C X527 at_45 rfl rfl ?_
      refine Go.iand (pc' := 47) C X527 at_46 rfl ?_
      have K55 : ∀ (T529 : State) (L529 : List Loc), Stand p l e room_1 s m #[(.int p1), (.int p2), (.int p3), (.int p4)] below meth c T529 L529 4 10 → T529.heap = T527.heap → Fr Z.heap.size L529 → ∀ (y : Int32), Go p e below (Fn s room_1.cells room_1.slots (Q_law Z p1 p2 p3 p4 cP dc kd em el ea ke mr h0)) T529 (mkF m 55 #[.val (.int p1), .val (.int p2), .val (.int p3), .val (.int p4), .val (.int (6 : Int32)), .val (.int x), .val (.ref r_522), .unset, .unset, .unset] [(.int y), (.ref b525), (.ref b523), (.ref b523)]) := by
        intro T529 L529 X529 e529 N529 y
        have c531 : Exa Z T527.heap b523 "com/example/tranche/tranche/journal/DefaultRateChange" := (Exa.keep (Exa.ext E525 A523) K527)
        have ne532 : b523 ≠ b525 := Nat.ne_of_lt (Nat.lt_of_lt_of_le A523.lt (Nat.le_trans (Nat.le_refl _) (Nat.le_of_eq g525.symm)))
        have c533 : Fld Z T527.heap b523 "com/example/tranche/tranche/journal/DefaultRateChange" "entry" "Lcom/example/tranche/tranche/journal/Entry;" .null := (Fld.keep (Fld.ext E525 F523_entry) K527 (ninS ne532 nin0))
        have c534 : Fld Z T527.heap b523 "com/example/tranche/tranche/journal/DefaultRateChange" "applies" "Z" (.int (0 : Int32)) := (Fld.keep (Fld.ext E525 F523_applies) K527 (ninS ne532 nin0))
        have O535 : Ext Z.heap T527.heap := (Ext.keep O528 K527 (allS n_b525 all0))
        refine Go.callI (y := (⟨"com/example/tranche/tranche/journal/DefaultRateChange", "<init>", "(Lcom/example/tranche/tranche/journal/Entry;Z)V"⟩ : MethodName)) (a := b523) (pc' := 58) C X529 rfl (tw hw 47 rfl) (tw hw 48 rfl) (by decide) (rm_dr l Z a0 hw b523 b525 y T527.heap O535 c531 c533 c534 n_b523) (tw hw 49 rfl) (tw hw 28 rfl) e529 (argsL := [(.ref b525), (.int y)]) (rest := [(.ref b523)]) (W := 1) rfl rfl pd_21 rfl (Nat.le_of_eq rfl) rfl (by decide) (by decide) (by decide) (by decide) rfl at_55 rfl ?_
        intro T530 v530 L530 X530 q530
        obtain ⟨rfl, N530q, K530⟩ := q530
        have N530 := Fr.app N529 N530q
        refine Go.astore (Ls' := #[.val (.int p1), .val (.int p2), .val (.int p3), .val (.int p4), .val (.int (6 : Int32)), .val (.int x), .val (.ref r_522), .val (.ref b523), .unset, .unset]) (pc' := 60) C X530 at_58 rfl rfl rfl ?_
        have O537 : Ext Z.heap T530.heap := (Ext.keep O535 K530 (allS n_b523 all0))
        refine Go.newO (pc' := 63) C X530 (tw hw 55 rfl) (tw hw 56 rfl) (tw hw 57 rfl) rfl (by decide) (by decide) at_60 rfl ?_
        intro T536 h536 b536 X536 e536 g536 E536 A536 D536
        have n_b536 : Z.heap.size ≤ b536 := Nat.le_trans O537.1 (Nat.le_of_eq g536.symm)
        have z_b536 : h0.size ≤ b536 := Nat.le_trans (Nat.le_trans (Nat.le_trans (Nat.le_trans (Nat.le_trans (Nat.le_trans (Nat.le_refl _) K522.1) E523.1) E525.1) K527.1) K530.1) (Nat.le_of_eq g536.symm)
        have F536_modCount : Fld Z h536 b536 "java/util/AbstractList" "modCount" "I" (.int (0 : Int32)) := D536 (Or.inl (tw hw 75 rfl)) (ty := .int) (by decide)
        have F536_elementData : Fld Z h536 b536 "java/util/ArrayList" "elementData" "[Ljava/lang/Object;" .null := D536 (Or.inl (tw hw 78 rfl)) (ty := (.array (.object "java/lang/Object"))) (by decide)
        have F536_size : Fld Z h536 b536 "java/util/ArrayList" "size" "I" (.int (0 : Int32)) := D536 (Or.inl (tw hw 110 rfl)) (ty := .int) (by decide)
        refine Go.dup (pc' := 64) C X536 at_63 rfl rfl ?_
        have O539 : Ext Z.heap h536 := (Ext.trans O537 E536)
        refine Go.callI (y := (⟨"java/util/ArrayList", "<init>", "()V"⟩ : MethodName)) (a := b536) (pc' := 67) C X536 rfl (tw hw 58 rfl) (tw hw 59 rfl) (by decide) (rm_alI l Z a0 hw b536 dc h536 O539 A536 F536_modCount F536_elementData F536_size SD n_b536) (tw hw 60 rfl) (tw hw 57 rfl) e536 (argsL := []) (rest := [(.ref b536)]) (W := 1) rfl rfl pd_3 rfl (Nat.le_of_eq rfl) rfl (by decide) (by decide) (by decide) (by decide) rfl at_64 rfl ?_
        intro T538 v538 L538 X538 q538
        obtain ⟨rfl, N538q, K538, P538_0, P538_1, P538_2⟩ := q538
        have N538 := Fr.app N530 N538q
        refine Go.astore (Ls' := #[.val (.int p1), .val (.int p2), .val (.int p3), .val (.int p4), .val (.int (6 : Int32)), .val (.int x), .val (.ref r_522), .val (.ref b523), .val (.ref b536), .unset]) (pc' := 69) C X538 at_67 rfl rfl rfl ?_
        refine Go.iload (pc' := 71) C X538 at_69 rfl rfl ?_
        refine Go.ifNo (pc' := 74) C X538 at_71 ((if0 _ _).trans (tlt (x := (0 : Int32)) (y := (6 : Int32)) (by decide)).2.2.2) rfl ?_
        refine Go.aload (pc' := 76) C X538 at_74 rfl rfl rfl ?_
        refine Go.aload (pc' := 78) C X538 at_76 rfl rfl rfl ?_
        have c542 : Exa Z T538.heap b536 "java/util/ArrayList" := (Exa.keep A536 K538)
        have c543 : Exa Z T538.heap b523 "com/example/tranche/tranche/journal/DefaultRateChange" := (Exa.keep (Exa.ext E536 (Exa.keep c531 K530)) K538)
        have O544 : Ext Z.heap T538.heap := (Ext.keep O539 K538 (allS n_b536 all0))
        refine Go.callV (y := (⟨"java/util/ArrayList", "add", "(Ljava/lang/Object;)Z"⟩ : MethodName)) (z := (⟨"java/util/ArrayList", "add", "(Ljava/lang/Object;)Z"⟩ : MethodName)) (a := b536) (pc' := 81) C X538 (tw hw 121 rfl) (tw hw 122 rfl) (notFace_at C.2.1 (tw hw 124 rfl)) (tw hw 124 rfl) (tw hw 123 rfl) c542 (by decide) (rm_add0 l Z a0 hw b536 b523 dc kd ((0 : Int32)) T538.heap O544 c542 c543 P538_0 P538_1 P538_2 SD AD n_b536) (tw hw 125 rfl) (tw hw 57 rfl) rfl (argsL := [(.ref b523)]) (rest := []) (W := 0) rfl rfl pd_23 rfl (Nat.le_of_eq rfl) rfl (by decide) (by decide) (by decide) (by decide) at_78 rfl ?_
        intro T541 v541 L541 X541 q541
        obtain ⟨w_541, kw_541, rfl, N541q, K541, B541_0, P541_0, P541_1, P541_2, P541_3, P541_4, p541_0⟩ := q541
        have N541 := Fr.app N538 N541q
        have n_w_541 : Z.heap.size ≤ w_541 := Nat.le_trans O544.1 B541_0
        have z_w_541 : h0.size ≤ w_541 := Nat.le_trans (Nat.le_trans (Nat.le_trans (Nat.le_trans (Nat.le_trans (Nat.le_trans (Nat.le_trans (Nat.le_trans (Nat.le_refl _) K522.1) E523.1) E525.1) K527.1) K530.1) E536.1) K538.1) B541_0
        refine Go.pop (pc' := 82) C X541 at_81 rfl rfl ?_
        refine Go.iload (pc' := 84) C X541 at_82 rfl rfl ?_
        refine Go.iconst (z := (1 : Int32)) (pc' := 85) C X541 at_84 rfl rfl ?_
        refine Go.icmpNo (pc' := 88) C X541 at_85 (tlt (x := (1 : Int32)) (y := (6 : Int32)) (by decide)).2.2.2 rfl ?_
        refine Go.aload (pc' := 90) C X541 at_88 rfl rfl rfl ?_
        refine Go.aload (pc' := 92) C X541 at_90 rfl rfl rfl ?_
        have c547 : Exa Z T541.heap b536 "java/util/ArrayList" := (Exa.keep c542 K541)
        have c548 : Exa Z T541.heap b523 "com/example/tranche/tranche/journal/DefaultRateChange" := (Exa.keep c543 K541)
        have O549 : Ext Z.heap T541.heap := (Ext.keep O544 K541 (allS n_b536 all0))
        refine Go.callV (y := (⟨"java/util/ArrayList", "add", "(Ljava/lang/Object;)Z"⟩ : MethodName)) (z := (⟨"java/util/ArrayList", "add", "(Ljava/lang/Object;)Z"⟩ : MethodName)) (a := b536) (pc' := 95) C X541 (tw hw 121 rfl) (tw hw 122 rfl) (notFace_at C.2.1 (tw hw 124 rfl)) (tw hw 124 rfl) (tw hw 123 rfl) c547 (by decide) (rm_add1 l Z a0 hw b536 b523 w_541 kw_541 (((0 : Int32) + (1 : Int32))) T541.heap O549 c547 c548 P541_0 P541_1 P541_2 P541_4 P541_3 n_b536 n_w_541 p541_0) (tw hw 125 rfl) (tw hw 57 rfl) rfl (argsL := [(.ref b523)]) (rest := []) (W := 0) rfl rfl pd_23 rfl (Nat.le_of_eq rfl) rfl (by decide) (by decide) (by decide) (by decide) at_92 rfl ?_
        intro T546 v546 L546 X546 q546
        obtain ⟨rfl, N546q, K546, P546_0, P546_1, P546_2, P546_3⟩ := q546
        have N546 := Fr.app N541 N546q
        refine Go.pop (pc' := 96) C X546 at_95 rfl rfl ?_
        refine Go.iload (pc' := 98) C X546 at_96 rfl rfl ?_
        refine Go.iconst (z := (2 : Int32)) (pc' := 99) C X546 at_98 rfl rfl ?_
        refine Go.icmpNo (pc' := 102) C X546 at_99 (tlt (x := (2 : Int32)) (y := (6 : Int32)) (by decide)).2.2.2 rfl ?_
        refine Go.aload (pc' := 104) C X546 at_102 rfl rfl rfl ?_
        refine Go.aload (pc' := 106) C X546 at_104 rfl rfl rfl ?_
        have c552 : Exa Z T546.heap b536 "java/util/ArrayList" := (Exa.keep c547 K546)
        have c553 : Exa Z T546.heap b523 "com/example/tranche/tranche/journal/DefaultRateChange" := (Exa.keep c548 K546)
        have c554 : Exa Z T546.heap w_541 "[Ljava/lang/Object;" := (Exa.keep P541_4 K546)
        have O555 : Ext Z.heap T546.heap := (Ext.keep O549 K546 (allS n_b536 (allS n_w_541 all0)))
        refine Go.callV (y := (⟨"java/util/ArrayList", "add", "(Ljava/lang/Object;)Z"⟩ : MethodName)) (z := (⟨"java/util/ArrayList", "add", "(Ljava/lang/Object;)Z"⟩ : MethodName)) (a := b536) (pc' := 109) C X546 (tw hw 121 rfl) (tw hw 122 rfl) (notFace_at C.2.1 (tw hw 124 rfl)) (tw hw 124 rfl) (tw hw 123 rfl) c552 (by decide) (rm_add2 l Z a0 hw b536 b523 w_541 kw_541 ((((0 : Int32) + (1 : Int32)) + (1 : Int32))) T546.heap O555 c552 c553 P546_0 P546_1 P546_2 c554 P546_3 n_b536 n_w_541 p541_0) (tw hw 125 rfl) (tw hw 57 rfl) rfl (argsL := [(.ref b523)]) (rest := []) (W := 0) rfl rfl pd_23 rfl (Nat.le_of_eq rfl) rfl (by decide) (by decide) (by decide) (by decide) at_106 rfl ?_
        intro T551 v551 L551 X551 q551
        obtain ⟨rfl, N551q, K551, P551_0, P551_1, P551_2, P551_3⟩ := q551
        have N551 := Fr.app N546 N551q
        refine Go.pop (pc' := 110) C X551 at_109 rfl rfl ?_
        refine Go.iload (pc' := 112) C X551 at_110 rfl rfl ?_
        refine Go.iconst (z := (3 : Int32)) (pc' := 113) C X551 at_112 rfl rfl ?_
        refine Go.icmpNo (pc' := 116) C X551 at_113 (tlt (x := (3 : Int32)) (y := (6 : Int32)) (by decide)).2.2.2 rfl ?_
        refine Go.aload (pc' := 118) C X551 at_116 rfl rfl rfl ?_
        refine Go.aload (pc' := 120) C X551 at_118 rfl rfl rfl ?_
        have c558 : Exa Z T551.heap b536 "java/util/ArrayList" := (Exa.keep c552 K551)
        have c559 : Exa Z T551.heap b523 "com/example/tranche/tranche/journal/DefaultRateChange" := (Exa.keep c553 K551)
        have c560 : Exa Z T551.heap w_541 "[Ljava/lang/Object;" := (Exa.keep c554 K551)
        have O561 : Ext Z.heap T551.heap := (Ext.keep O555 K551 (allS n_b536 (allS n_w_541 all0)))
        refine Go.callV (y := (⟨"java/util/ArrayList", "add", "(Ljava/lang/Object;)Z"⟩ : MethodName)) (z := (⟨"java/util/ArrayList", "add", "(Ljava/lang/Object;)Z"⟩ : MethodName)) (a := b536) (pc' := 123) C X551 (tw hw 121 rfl) (tw hw 122 rfl) (notFace_at C.2.1 (tw hw 124 rfl)) (tw hw 124 rfl) (tw hw 123 rfl) c558 (by decide) (rm_add3 l Z a0 hw b536 b523 w_541 kw_541 (((((0 : Int32) + (1 : Int32)) + (1 : Int32)) + (1 : Int32))) T551.heap O561 c558 c559 P551_0 P551_1 P551_2 c560 P551_3 n_b536 n_w_541 p541_0) (tw hw 125 rfl) (tw hw 57 rfl) rfl (argsL := [(.ref b523)]) (rest := []) (W := 0) rfl rfl pd_23 rfl (Nat.le_of_eq rfl) rfl (by decide) (by decide) (by decide) (by decide) at_120 rfl ?_
        intro T557 v557 L557 X557 q557
        obtain ⟨rfl, N557q, K557, P557_0, P557_1, P557_2, P557_3⟩ := q557
        have N557 := Fr.app N551 N557q
        refine Go.pop (pc' := 124) C X557 at_123 rfl rfl ?_
        refine Go.iload (pc' := 126) C X557 at_124 rfl rfl ?_
        refine Go.iconst (z := (4 : Int32)) (pc' := 127) C X557 at_126 rfl rfl ?_
        refine Go.icmpNo (pc' := 130) C X557 at_127 (tlt (x := (4 : Int32)) (y := (6 : Int32)) (by decide)).2.2.2 rfl ?_
        refine Go.aload (pc' := 132) C X557 at_130 rfl rfl rfl ?_
        refine Go.aload (pc' := 134) C X557 at_132 rfl rfl rfl ?_
        have c564 : Exa Z T557.heap b536 "java/util/ArrayList" := (Exa.keep c558 K557)
        have c565 : Exa Z T557.heap b523 "com/example/tranche/tranche/journal/DefaultRateChange" := (Exa.keep c559 K557)
        have c566 : Exa Z T557.heap w_541 "[Ljava/lang/Object;" := (Exa.keep c560 K557)
        have O567 : Ext Z.heap T557.heap := (Ext.keep O561 K557 (allS n_b536 (allS n_w_541 all0)))
        refine Go.callV (y := (⟨"java/util/ArrayList", "add", "(Ljava/lang/Object;)Z"⟩ : MethodName)) (z := (⟨"java/util/ArrayList", "add", "(Ljava/lang/Object;)Z"⟩ : MethodName)) (a := b536) (pc' := 137) C X557 (tw hw 121 rfl) (tw hw 122 rfl) (notFace_at C.2.1 (tw hw 124 rfl)) (tw hw 124 rfl) (tw hw 123 rfl) c564 (by decide) (rm_add4 l Z a0 hw b536 b523 w_541 kw_541 ((((((0 : Int32) + (1 : Int32)) + (1 : Int32)) + (1 : Int32)) + (1 : Int32))) T557.heap O567 c564 c565 P557_0 P557_1 P557_2 c566 P557_3 n_b536 n_w_541 p541_0) (tw hw 125 rfl) (tw hw 57 rfl) rfl (argsL := [(.ref b523)]) (rest := []) (W := 0) rfl rfl pd_23 rfl (Nat.le_of_eq rfl) rfl (by decide) (by decide) (by decide) (by decide) at_134 rfl ?_
        intro T563 v563 L563 X563 q563
        obtain ⟨rfl, N563q, K563, P563_0, P563_1, P563_2, P563_3⟩ := q563
        have N563 := Fr.app N557 N563q
        refine Go.pop (pc' := 138) C X563 at_137 rfl rfl ?_
        refine Go.iload (pc' := 140) C X563 at_138 rfl rfl ?_
        refine Go.iconst (z := (5 : Int32)) (pc' := 141) C X563 at_140 rfl rfl ?_
        refine Go.icmpNo (pc' := 144) C X563 at_141 (tlt (x := (5 : Int32)) (y := (6 : Int32)) (by decide)).2.2.2 rfl ?_
        refine Go.aload (pc' := 146) C X563 at_144 rfl rfl rfl ?_
        refine Go.aload (pc' := 148) C X563 at_146 rfl rfl rfl ?_
        have c570 : Exa Z T563.heap b536 "java/util/ArrayList" := (Exa.keep c564 K563)
        have c571 : Exa Z T563.heap b523 "com/example/tranche/tranche/journal/DefaultRateChange" := (Exa.keep c565 K563)
        have c572 : Exa Z T563.heap w_541 "[Ljava/lang/Object;" := (Exa.keep c566 K563)
        have O573 : Ext Z.heap T563.heap := (Ext.keep O567 K563 (allS n_b536 (allS n_w_541 all0)))
        refine Go.callV (y := (⟨"java/util/ArrayList", "add", "(Ljava/lang/Object;)Z"⟩ : MethodName)) (z := (⟨"java/util/ArrayList", "add", "(Ljava/lang/Object;)Z"⟩ : MethodName)) (a := b536) (pc' := 151) C X563 (tw hw 121 rfl) (tw hw 122 rfl) (notFace_at C.2.1 (tw hw 124 rfl)) (tw hw 124 rfl) (tw hw 123 rfl) c570 (by decide) (rm_add5 l Z a0 hw b536 b523 w_541 kw_541 (((((((0 : Int32) + (1 : Int32)) + (1 : Int32)) + (1 : Int32)) + (1 : Int32)) + (1 : Int32))) T563.heap O573 c570 c571 P563_0 P563_1 P563_2 c572 P563_3 n_b536 n_w_541 p541_0) (tw hw 125 rfl) (tw hw 57 rfl) rfl (argsL := [(.ref b523)]) (rest := []) (W := 0) rfl rfl pd_23 rfl (Nat.le_of_eq rfl) rfl (by decide) (by decide) (by decide) (by decide) at_148 rfl ?_
        intro T569 v569 L569 X569 q569
        obtain ⟨rfl, N569q, K569, P569_0, P569_1, P569_2, P569_3⟩ := q569
        have N569 := Fr.app N563 N569q
        refine Go.pop (pc' := 152) C X569 at_151 rfl rfl ?_
        refine Go.iload (pc' := 154) C X569 at_152 rfl rfl ?_
        refine Go.bipush (z := (6 : Int32)) (pc' := 156) C X569 at_154 rfl rfl ?_
        refine Go.icmpYes (pc' := 167) C X569 at_156 (flt (x := (6 : Int32)) (y := (6 : Int32)) (by decide)).2.2.2 (by decide) (by decide) ?_
        have O576 : Ext Z.heap T569.heap := (Ext.keep O573 K569 (allS n_b536 (allS n_w_541 all0)))
        refine Go.newO (pc' := 170) C X569 (tw hw 79 rfl) (tw hw 80 rfl) (tw hw 81 rfl) rfl (by decide) (by decide) at_167 rfl ?_
        intro T575 h575 b575 X575 e575 g575 E575 A575 D575
        have n_b575 : Z.heap.size ≤ b575 := Nat.le_trans O576.1 (Nat.le_of_eq g575.symm)
        have z_b575 : h0.size ≤ b575 := Nat.le_trans (Nat.le_trans (Nat.le_trans (Nat.le_trans (Nat.le_trans (Nat.le_trans (Nat.le_trans (Nat.le_trans (Nat.le_trans (Nat.le_trans (Nat.le_trans (Nat.le_trans (Nat.le_trans (Nat.le_trans (Nat.le_refl _) K522.1) E523.1) E525.1) K527.1) K530.1) E536.1) K538.1) K541.1) K546.1) K551.1) K557.1) K563.1) K569.1) (Nat.le_of_eq g575.symm)
        have F575_source : Fld Z h575 b575 "com/example/tranche/tranche/journal/Journal" "source" "Ljava/lang/String;" .null := D575 (Or.inr (tw hw 116 rfl)) (ty := (.object "java/lang/String")) (by decide)
        have F575_events : Fld Z h575 b575 "com/example/tranche/tranche/journal/Journal" "events" "Ljava/util/List;" .null := D575 (Or.inr (tw hw 118 rfl)) (ty := (.object "java/util/List")) (by decide)
        have F575_incomplete : Fld Z h575 b575 "com/example/tranche/tranche/journal/Journal" "incomplete" "Z" (.int (0 : Int32)) := D575 (Or.inr (tw hw 120 rfl)) (ty := .boolean) (by decide)
        refine Go.dup (pc' := 171) C X575 at_170 rfl rfl ?_
        refine Go.aload (pc' := 173) C X575 at_171 rfl rfl rfl ?_
        refine Go.aload (pc' := 175) C X575 at_173 rfl rfl rfl ?_
        refine Go.iload (pc' := 177) C X575 at_175 rfl rfl ?_
        have c578 : Exa Z h575 b536 "java/util/ArrayList" := (Exa.ext E575 (Exa.keep c570 K569))
        have c579 : Fld Z h575 b536 "java/util/ArrayList" "elementData" "[Ljava/lang/Object;" (.ref w_541) := (Fld.ext E575 P569_1)
        have c580 : Fld Z h575 b536 "java/util/ArrayList" "size" "I" (.int (6 : Int32)) := (Fld.ext E575 P569_2)
        have c581 : Exa Z h575 w_541 "[Ljava/lang/Object;" := (Exa.ext E575 (Exa.keep c572 K569))
        have c582 : AL Z h575 w_541 kw_541 (.object "java/lang/Object") [(.ref b523), (.ref b523), (.ref b523), (.ref b523), (.ref b523), (.ref b523), .null, .null, .null, .null] := (AL.ext E575 P569_3)
        have c583 : Exa Z h575 b523 "com/example/tranche/tranche/journal/DefaultRateChange" := (Exa.ext E575 (Exa.keep c571 K569))
        have O584 : Ext Z.heap h575 := (Ext.trans O576 E575)
        refine Go.callI (y := (⟨"com/example/tranche/tranche/journal/Journal", "<init>", "(Ljava/lang/String;Ljava/util/List;Z)V"⟩ : MethodName)) (a := b575) (pc' := 180) C X575 rfl (tw hw 82 rfl) (tw hw 83 rfl) (by decide) (rm_jI6 l Z a0 hw b575 r_522 x b536 b523 w_541 kw_541 mr h575 O584 A575 F575_source F575_events F575_incomplete c578 c579 c580 c581 c582 c583 hM n_b575) (tw hw 84 rfl) (tw hw 81 rfl) e575 (argsL := [(.ref r_522), (.ref b536), (.int x)]) (rest := [(.ref b575)]) (W := 1) rfl rfl pd_22 rfl (Nat.le_of_eq rfl) rfl (by decide) (by decide) (by decide) (by decide) rfl at_177 rfl ?_
        intro T577 v577 L577 X577 q577
        obtain ⟨r_577, q_577, kq_577, rfl, N577q, K577, B577_0, B577_1, P577_0, P577_1, P577_2, P577_3⟩ := q577
        have N577 := Fr.app N569 N577q
        have n_r_577 : Z.heap.size ≤ r_577 := Nat.le_trans O584.1 B577_0
        have z_r_577 : h0.size ≤ r_577 := Nat.le_trans (Nat.le_trans (Nat.le_trans (Nat.le_trans (Nat.le_trans (Nat.le_trans (Nat.le_trans (Nat.le_trans (Nat.le_trans (Nat.le_trans (Nat.le_trans (Nat.le_trans (Nat.le_trans (Nat.le_trans (Nat.le_trans (Nat.le_refl _) K522.1) E523.1) E525.1) K527.1) K530.1) E536.1) K538.1) K541.1) K546.1) K551.1) K557.1) K563.1) K569.1) E575.1) B577_0
        have n_q_577 : Z.heap.size ≤ q_577 := Nat.le_trans O584.1 B577_1
        have z_q_577 : h0.size ≤ q_577 := Nat.le_trans (Nat.le_trans (Nat.le_trans (Nat.le_trans (Nat.le_trans (Nat.le_trans (Nat.le_trans (Nat.le_trans (Nat.le_trans (Nat.le_trans (Nat.le_trans (Nat.le_trans (Nat.le_trans (Nat.le_trans (Nat.le_trans (Nat.le_refl _) K522.1) E523.1) E525.1) K527.1) K530.1) E536.1) K538.1) K541.1) K546.1) K551.1) K557.1) K563.1) K569.1) E575.1) B577_1
        refine Go.astore (Ls' := #[.val (.int p1), .val (.int p2), .val (.int p3), .val (.int p4), .val (.int (6 : Int32)), .val (.int x), .val (.ref r_522), .val (.ref b523), .val (.ref b536), .val (.ref b575)]) (pc' := 182) C X577 at_180 rfl rfl rfl ?_
        refine Go.aload (pc' := 184) C X577 at_182 rfl rfl rfl ?_
        refine Go.aload (pc' := 186) C X577 at_184 rfl rfl rfl ?_
        have c586 : Exa Z T577.heap b536 "java/util/ArrayList" := (Exa.keep c578 K577)
        have c587 : Exa Z T577.heap b523 "com/example/tranche/tranche/journal/DefaultRateChange" := (Exa.keep c583 K577)
        have ne588 : b536 ≠ b575 := Nat.ne_of_lt (Nat.lt_of_lt_of_le A536.lt (Nat.le_trans (Nat.le_trans (Nat.le_trans (Nat.le_trans (Nat.le_trans (Nat.le_trans (Nat.le_trans (Nat.le_trans (Nat.le_refl _) K538.1) K541.1) K546.1) K551.1) K557.1) K563.1) K569.1) (Nat.le_of_eq g575.symm)))
        have c589 : Fld Z T577.heap b536 "java/util/AbstractList" "modCount" "I" (.int (((((((0 : Int32) + (1 : Int32)) + (1 : Int32)) + (1 : Int32)) + (1 : Int32)) + (1 : Int32)) + (1 : Int32))) := (Fld.keep (Fld.ext E575 P569_0) K577 (ninS ne588 nin0))
        have c590 : Fld Z T577.heap b536 "java/util/ArrayList" "elementData" "[Ljava/lang/Object;" (.ref w_541) := (Fld.keep c579 K577 (ninS ne588 nin0))
        have c591 : Fld Z T577.heap b536 "java/util/ArrayList" "size" "I" (.int (6 : Int32)) := (Fld.keep c580 K577 (ninS ne588 nin0))
        have c592 : Exa Z T577.heap w_541 "[Ljava/lang/Object;" := (Exa.keep c581 K577)
        have ne593 : w_541 ≠ b575 := Nat.ne_of_lt (Nat.lt_of_lt_of_le P541_3.lt (Nat.le_trans (Nat.le_trans (Nat.le_trans (Nat.le_trans (Nat.le_trans (Nat.le_trans (Nat.le_refl _) K546.1) K551.1) K557.1) K563.1) K569.1) (Nat.le_of_eq g575.symm)))
        have c594 : AL Z T577.heap w_541 kw_541 (.object "java/lang/Object") [(.ref b523), (.ref b523), (.ref b523), (.ref b523), (.ref b523), (.ref b523), .null, .null, .null, .null] := (AL.keep c582 K577 (ninS ne593 nin0))
        have O595 : Ext Z.heap T577.heap := (Ext.keep O584 K577 (allS n_b575 all0))
        refine Go.callV (y := (⟨"java/util/ArrayList", "add", "(Ljava/lang/Object;)Z"⟩ : MethodName)) (z := (⟨"java/util/ArrayList", "add", "(Ljava/lang/Object;)Z"⟩ : MethodName)) (a := b536) (pc' := 189) C X577 (tw hw 121 rfl) (tw hw 122 rfl) (notFace_at C.2.1 (tw hw 124 rfl)) (tw hw 124 rfl) (tw hw 123 rfl) c586 (by decide) (rm_add6 l Z a0 hw b536 b523 w_541 kw_541 ((((((((0 : Int32) + (1 : Int32)) + (1 : Int32)) + (1 : Int32)) + (1 : Int32)) + (1 : Int32)) + (1 : Int32))) T577.heap O595 c586 c587 c589 c590 c591 c592 c594 n_b536 n_w_541 p541_0) (tw hw 125 rfl) (tw hw 57 rfl) rfl (argsL := [(.ref b523)]) (rest := []) (W := 0) rfl rfl pd_23 rfl (Nat.le_of_eq rfl) rfl (by decide) (by decide) (by decide) (by decide) at_186 rfl ?_
        intro T585 v585 L585 X585 q585
        obtain ⟨rfl, N585q, K585, P585_0, P585_1, P585_2, P585_3⟩ := q585
        have N585 := Fr.app N577 N585q
        refine Go.pop (pc' := 190) C X585 at_189 rfl rfl ?_
        refine Go.aload (pc' := 192) C X585 at_190 rfl rfl rfl ?_
        have c597 : Fld Z T585.heap b575 "com/example/tranche/tranche/journal/Journal" "events" "Ljava/util/List;" (.ref r_577) := (Fld.keep P577_0 K585 (ninS (Ne.symm ne588) (ninS (Ne.symm ne593) nin0)))
        have c598 : Exa Z T585.heap r_577 "java/util/ImmutableCollections$ListN" := (Exa.keep P577_1 K585)
        have ne599 : r_577 ≠ w_541 := (Nat.ne_of_gt (Nat.lt_of_lt_of_le P541_3.lt (Nat.le_trans (Nat.le_trans (Nat.le_trans (Nat.le_trans (Nat.le_trans (Nat.le_trans (Nat.le_trans (Nat.le_refl _) K546.1) K551.1) K557.1) K563.1) K569.1) E575.1) B577_0)))
        have ne600 : r_577 ≠ b536 := (Nat.ne_of_gt (Nat.lt_of_lt_of_le A536.lt (Nat.le_trans (Nat.le_trans (Nat.le_trans (Nat.le_trans (Nat.le_trans (Nat.le_trans (Nat.le_trans (Nat.le_trans (Nat.le_trans (Nat.le_refl _) K538.1) K541.1) K546.1) K551.1) K557.1) K563.1) K569.1) E575.1) B577_0)))
        have c601 : Fld Z T585.heap r_577 "java/util/ImmutableCollections$ListN" "elements" "[Ljava/lang/Object;" (.ref q_577) := (Fld.keep P577_2 K585 (ninS ne600 (ninS ne599 nin0)))
        have ne602 : q_577 ≠ w_541 := (Nat.ne_of_gt (Nat.lt_of_lt_of_le P541_3.lt (Nat.le_trans (Nat.le_trans (Nat.le_trans (Nat.le_trans (Nat.le_trans (Nat.le_trans (Nat.le_trans (Nat.le_refl _) K546.1) K551.1) K557.1) K563.1) K569.1) E575.1) B577_1)))
        have ne603 : q_577 ≠ b536 := (Nat.ne_of_gt (Nat.lt_of_lt_of_le A536.lt (Nat.le_trans (Nat.le_trans (Nat.le_trans (Nat.le_trans (Nat.le_trans (Nat.le_trans (Nat.le_trans (Nat.le_trans (Nat.le_trans (Nat.le_refl _) K538.1) K541.1) K546.1) K551.1) K557.1) K563.1) K569.1) E575.1) B577_1)))
        have c604 : AL Z T585.heap q_577 kq_577 (.object "java/lang/Object") [(.ref b523), (.ref b523), (.ref b523), (.ref b523), (.ref b523), (.ref b523)] := (AL.keep P577_3 K585 (ninS ne603 (ninS ne602 nin0)))
        have O605 : Ext Z.heap T585.heap := (Ext.keep O595 K585 (allS n_b536 (allS n_w_541 all0)))
        have c606 : Exa Z T585.heap b575 "com/example/tranche/tranche/journal/Journal" := (Exa.keep (Exa.keep A575 K577) K585)
        refine Go.callV (y := (⟨"com/example/tranche/tranche/journal/Journal", "nextLine", "()I"⟩ : MethodName)) (z := (⟨"com/example/tranche/tranche/journal/Journal", "nextLine", "()I"⟩ : MethodName)) (a := b575) (pc' := 195) C X585 (tw hw 150 rfl) (tw hw 151 rfl) (notFace_at C.2.1 (tw hw 153 rfl)) (tw hw 153 rfl) (tw hw 152 rfl) c606 (by decide) (rm_nl6 l Z a0 hw b575 r_577 q_577 kq_577 b523 T585.heap O605 c597 c598 c601 c604) (tw hw 154 rfl) (tw hw 81 rfl) rfl (argsL := []) (rest := []) (W := 0) rfl rfl pd_18 rfl (Nat.le_of_eq rfl) rfl (by decide) (by decide) (by decide) (by decide) at_192 rfl ?_
        intro T596 v596 L596 X596 q596
        obtain ⟨rfl, rfl, e596⟩ := q596
        have N596 := Fr.app N585 (Fr.nil _)
        refine Go.iload (pc' := 197) C X596 at_195 rfl rfl ?_
        refine Go.iconst (z := (1 : Int32)) (pc' := 198) C X596 at_197 rfl rfl ?_
        refine Go.iadd (pc' := 199) C X596 at_198 rfl ?_
        rw [show ((6 : Int32) + (1 : Int32)) = (7 : Int32) from by decide]
        refine Go.icmpNo (pc' := 202) C X596 at_199 (teq (x := (7 : Int32)) (y := (7 : Int32)) (by decide)).2 rfl ?_
        refine Go.iconst (z := (1 : Int32)) (pc' := 203) C X596 at_202 rfl rfl ?_
        refine Go.goto (pc' := 207) C X596 at_203 (by decide) (by decide) ?_
        have K608 : Keep h0 T585.heap [] := (((((((((((((((((Keep.refl h0 []).trans K522 all0).ext E523).ext E525).trans K527 (allS (Or.inr z_b525) all0)).trans K530 (allS (Or.inr z_b523) all0)).ext E536).trans K538 (allS (Or.inr z_b536) all0)).trans K541 (allS (Or.inr z_b536) all0)).trans K546 (allS (Or.inr z_b536) (allS (Or.inr z_w_541) all0))).trans K551 (allS (Or.inr z_b536) (allS (Or.inr z_w_541) all0))).trans K557 (allS (Or.inr z_b536) (allS (Or.inr z_w_541) all0))).trans K563 (allS (Or.inr z_b536) (allS (Or.inr z_w_541) all0))).trans K569 (allS (Or.inr z_b536) (allS (Or.inr z_w_541) all0))).ext E575).trans K577 (allS (Or.inr z_b575) all0)).trans K585 (allS (Or.inr z_b536) (allS (Or.inr z_w_541) all0)))
        exact Go.retN C X596 rfl at_207 (by simp) (by rw [e596]; exact ⟨rfl, N596, K608⟩) (by decide) (by decide)
      by_cases hc47_609 : (p2 &&& (2 : Int32)) = (0 : Int32)
      · refine Go.ifYes (pc' := 54) C X527 at_47 ((if0 _ _).trans (teq (x := (p2 &&& (2 : Int32))) (y := (0 : Int32)) hc47_609).1) (by decide) (by decide) ?_
        refine Go.iconst (z := (0 : Int32)) (pc' := 55) C X527 at_54 rfl rfl ?_
        exact K55 _ _ X527 rfl N527 (0 : Int32) 
      · refine Go.ifNo (pc' := 50) C X527 at_47 ((if0 _ _).trans (feq (x := (p2 &&& (2 : Int32))) (y := (0 : Int32)) hc47_609).1) rfl ?_
        refine Go.iconst (z := (1 : Int32)) (pc' := 51) C X527 at_50 rfl rfl ?_
        refine Go.goto (pc' := 55) C X527 at_51 (by decide) (by decide) ?_
        exact K55 _ _ X527 rfl N527 (1 : Int32) 
    by_cases hc9_610 : (p2 &&& (1 : Int32)) = (0 : Int32)
    · refine Go.ifYes (pc' := 16) C X0 at_9 ((if0 _ _).trans (teq (x := (p2 &&& (1 : Int32))) (y := (0 : Int32)) hc9_610).1) (by decide) (by decide) ?_
      refine Go.iconst (z := (0 : Int32)) (pc' := 17) C X0 at_16 rfl rfl ?_
      exact K17 _ _ X0 e0 N0 (0 : Int32) 
    · refine Go.ifNo (pc' := 12) C X0 at_9 ((if0 _ _).trans (feq (x := (p2 &&& (1 : Int32))) (y := (0 : Int32)) hc9_610).1) rfl ?_
      refine Go.iconst (z := (1 : Int32)) (pc' := 13) C X0 at_12 rfl rfl ?_
      refine Go.goto (pc' := 17) C X0 at_13 (by decide) (by decide) ?_
      exact K17 _ _ X0 e0 N0 (1 : Int32) 
  · rw [hl]
    refine Go.iloadN (pc' := 7) C X0 at_6 rfl rfl ?_
    refine Go.iconst (z := (1 : Int32)) (pc' := 8) C X0 at_7 rfl rfl ?_
    refine Go.iand (pc' := 9) C X0 at_8 rfl ?_
    have K17 : ∀ (T611 : State) (L611 : List Loc), Stand p l e room_1 s m #[(.int p1), (.int p2), (.int p3), (.int p4)] below meth c T611 L611 0 0 → T611.heap = h0 → Fr Z.heap.size L611 → ∀ (x : Int32), Go p e below (Fn s room_1.cells room_1.slots (Q_law Z p1 p2 p3 p4 cP dc kd em el ea ke mr h0)) T611 (mkF m 17 #[.val (.int p1), .val (.int p2), .val (.int p3), .val (.int p4), .val (.int (7 : Int32)), .unset, .unset, .unset, .unset, .unset] [(.int x)]) := by
      intro T611 L611 X611 e611 N611 x
      refine Go.istore (Ls' := #[.val (.int p1), .val (.int p2), .val (.int p3), .val (.int p4), .val (.int (7 : Int32)), .val (.int x), .unset, .unset, .unset, .unset]) (pc' := 19) C X611 at_17 rfl rfl ?_
      refine Go.iloadN (pc' := 20) C X611 at_19 rfl rfl ?_
      refine Go.sipush (z := (255 : Int32)) (pc' := 23) C X611 at_20 rfl rfl ?_
      refine Go.iand (pc' := 24) C X611 at_23 rfl ?_
      refine Go.i2c (pc' := 25) C X611 at_24 rfl ?_
      refine Go.callS (y := (⟨"java/lang/String", "valueOf", "(C)Ljava/lang/String;"⟩ : MethodName)) (pc' := 28) C X611 (tw hw 0 rfl) (tw hw 1 rfl) (by decide) (rm_vc l Z a0 hw (((p3 &&& (255 : Int32)).toUInt32.toUInt16.toUInt32.toInt32)) cP h0 O0 SC (own_c255 p3) hP) (tw hw 3 rfl) (tw hw 2 rfl) e611 (argsL := [(.int ((p3 &&& (255 : Int32)).toUInt32.toUInt16.toUInt32.toInt32))]) (rest := []) (W := 0) rfl rfl pd_19 rfl (Nat.le_of_eq rfl) rfl (by decide) (by decide) (by decide) (by decide) at_25 rfl ?_
      intro T612 v612 L612 X612 q612
      obtain ⟨r_612, rfl, N612q, K612, B612_0, P612_0⟩ := q612
      have N612 := Fr.app N611 N612q
      have n_r_612 : Z.heap.size ≤ r_612 := Nat.le_trans O0.1 B612_0
      have z_r_612 : h0.size ≤ r_612 := Nat.le_trans (Nat.le_refl _) B612_0
      refine Go.astore (Ls' := #[.val (.int p1), .val (.int p2), .val (.int p3), .val (.int p4), .val (.int (7 : Int32)), .val (.int x), .val (.ref r_612), .unset, .unset, .unset]) (pc' := 30) C X612 at_28 rfl rfl rfl ?_
      have O614 : Ext Z.heap T612.heap := (Ext.keep O0 K612 all0)
      refine Go.newO (pc' := 33) C X612 (tw hw 26 rfl) (tw hw 27 rfl) (tw hw 28 rfl) rfl (by decide) (by decide) at_30 rfl ?_
      intro T613 h613 b613 X613 e613 g613 E613 A613 D613
      have n_b613 : Z.heap.size ≤ b613 := Nat.le_trans O614.1 (Nat.le_of_eq g613.symm)
      have z_b613 : h0.size ≤ b613 := Nat.le_trans (Nat.le_trans (Nat.le_refl _) K612.1) (Nat.le_of_eq g613.symm)
      have F613_entry : Fld Z h613 b613 "com/example/tranche/tranche/journal/DefaultRateChange" "entry" "Lcom/example/tranche/tranche/journal/Entry;" .null := D613 (Or.inr (tw hw 52 rfl)) (ty := (.object "com/example/tranche/tranche/journal/Entry")) (by decide)
      have F613_applies : Fld Z h613 b613 "com/example/tranche/tranche/journal/DefaultRateChange" "applies" "Z" (.int (0 : Int32)) := D613 (Or.inr (tw hw 54 rfl)) (ty := .boolean) (by decide)
      refine Go.dup (pc' := 34) C X613 at_33 rfl rfl ?_
      have O616 : Ext Z.heap h613 := (Ext.trans O614 E613)
      refine Go.newO (pc' := 37) C X613 (tw hw 29 rfl) (tw hw 30 rfl) (tw hw 31 rfl) e613 (by decide) (by decide) at_34 rfl ?_
      intro T615 h615 b615 X615 e615 g615 E615 A615 D615
      have n_b615 : Z.heap.size ≤ b615 := Nat.le_trans O616.1 (Nat.le_of_eq g615.symm)
      have z_b615 : h0.size ≤ b615 := Nat.le_trans (Nat.le_trans (Nat.le_trans (Nat.le_refl _) K612.1) E613.1) (Nat.le_of_eq g615.symm)
      have F615_line : Fld Z h615 b615 "com/example/tranche/tranche/journal/Entry" "line" "I" (.int (0 : Int32)) := D615 (Or.inr (tw hw 42 rfl)) (ty := .int) (by decide)
      have F615_date : Fld Z h615 b615 "com/example/tranche/tranche/journal/Entry" "date" "Ljava/time/LocalDate;" .null := D615 (Or.inr (tw hw 44 rfl)) (ty := (.object "java/time/LocalDate")) (by decide)
      have F615_recorded : Fld Z h615 b615 "com/example/tranche/tranche/journal/Entry" "recorded" "Ljava/time/LocalDate;" .null := D615 (Or.inr (tw hw 46 rfl)) (ty := (.object "java/time/LocalDate")) (by decide)
      refine Go.dup (pc' := 38) C X615 at_37 rfl rfl ?_
      refine Go.iloadN (pc' := 39) C X615 at_38 rfl rfl ?_
      refine Go.aconstNull (pc' := 40) C X615 at_39 rfl ?_
      refine Go.aconstNull (pc' := 41) C X615 at_40 rfl ?_
      have O618 : Ext Z.heap h615 := (Ext.trans O616 E615)
      refine Go.callI (y := (⟨"com/example/tranche/tranche/journal/Entry", "<init>", "(ILjava/time/LocalDate;Ljava/time/LocalDate;)V"⟩ : MethodName)) (a := b615) (pc' := 44) C X615 rfl (tw hw 32 rfl) (tw hw 33 rfl) (by decide) (rm_en l Z a0 hw b615 p4 h615 O618 A615 F615_line F615_date F615_recorded n_b615) (tw hw 34 rfl) (tw hw 31 rfl) e615 (argsL := [(.int p4), .null, .null]) (rest := [(.ref b615), (.ref b613), (.ref b613)]) (W := 3) rfl rfl pd_20 rfl (Nat.le_of_eq rfl) rfl (by decide) (by decide) (by decide) (by decide) rfl at_41 rfl ?_
      intro T617 v617 L617 X617 q617
      obtain ⟨rfl, N617q, K617⟩ := q617
      have N617 := Fr.app N612 N617q
      refine Go.iloadN (pc' := 45) C X617 at_44 rfl rfl ?_
      refine Go.iconst (z := (2 : Int32)) (pc' := 46) C X617 at_45 rfl rfl ?_
      refine Go.iand (pc' := 47) C X617 at_46 rfl ?_
      have K55 : ∀ (T619 : State) (L619 : List Loc), Stand p l e room_1 s m #[(.int p1), (.int p2), (.int p3), (.int p4)] below meth c T619 L619 4 10 → T619.heap = T617.heap → Fr Z.heap.size L619 → ∀ (y : Int32), Go p e below (Fn s room_1.cells room_1.slots (Q_law Z p1 p2 p3 p4 cP dc kd em el ea ke mr h0)) T619 (mkF m 55 #[.val (.int p1), .val (.int p2), .val (.int p3), .val (.int p4), .val (.int (7 : Int32)), .val (.int x), .val (.ref r_612), .unset, .unset, .unset] [(.int y), (.ref b615), (.ref b613), (.ref b613)]) := by
        intro T619 L619 X619 e619 N619 y
        have c621 : Exa Z T617.heap b613 "com/example/tranche/tranche/journal/DefaultRateChange" := (Exa.keep (Exa.ext E615 A613) K617)
        have ne622 : b613 ≠ b615 := Nat.ne_of_lt (Nat.lt_of_lt_of_le A613.lt (Nat.le_trans (Nat.le_refl _) (Nat.le_of_eq g615.symm)))
        have c623 : Fld Z T617.heap b613 "com/example/tranche/tranche/journal/DefaultRateChange" "entry" "Lcom/example/tranche/tranche/journal/Entry;" .null := (Fld.keep (Fld.ext E615 F613_entry) K617 (ninS ne622 nin0))
        have c624 : Fld Z T617.heap b613 "com/example/tranche/tranche/journal/DefaultRateChange" "applies" "Z" (.int (0 : Int32)) := (Fld.keep (Fld.ext E615 F613_applies) K617 (ninS ne622 nin0))
        have O625 : Ext Z.heap T617.heap := (Ext.keep O618 K617 (allS n_b615 all0))
        refine Go.callI (y := (⟨"com/example/tranche/tranche/journal/DefaultRateChange", "<init>", "(Lcom/example/tranche/tranche/journal/Entry;Z)V"⟩ : MethodName)) (a := b613) (pc' := 58) C X619 rfl (tw hw 47 rfl) (tw hw 48 rfl) (by decide) (rm_dr l Z a0 hw b613 b615 y T617.heap O625 c621 c623 c624 n_b613) (tw hw 49 rfl) (tw hw 28 rfl) e619 (argsL := [(.ref b615), (.int y)]) (rest := [(.ref b613)]) (W := 1) rfl rfl pd_21 rfl (Nat.le_of_eq rfl) rfl (by decide) (by decide) (by decide) (by decide) rfl at_55 rfl ?_
        intro T620 v620 L620 X620 q620
        obtain ⟨rfl, N620q, K620⟩ := q620
        have N620 := Fr.app N619 N620q
        refine Go.astore (Ls' := #[.val (.int p1), .val (.int p2), .val (.int p3), .val (.int p4), .val (.int (7 : Int32)), .val (.int x), .val (.ref r_612), .val (.ref b613), .unset, .unset]) (pc' := 60) C X620 at_58 rfl rfl rfl ?_
        have O627 : Ext Z.heap T620.heap := (Ext.keep O625 K620 (allS n_b613 all0))
        refine Go.newO (pc' := 63) C X620 (tw hw 55 rfl) (tw hw 56 rfl) (tw hw 57 rfl) rfl (by decide) (by decide) at_60 rfl ?_
        intro T626 h626 b626 X626 e626 g626 E626 A626 D626
        have n_b626 : Z.heap.size ≤ b626 := Nat.le_trans O627.1 (Nat.le_of_eq g626.symm)
        have z_b626 : h0.size ≤ b626 := Nat.le_trans (Nat.le_trans (Nat.le_trans (Nat.le_trans (Nat.le_trans (Nat.le_trans (Nat.le_refl _) K612.1) E613.1) E615.1) K617.1) K620.1) (Nat.le_of_eq g626.symm)
        have F626_modCount : Fld Z h626 b626 "java/util/AbstractList" "modCount" "I" (.int (0 : Int32)) := D626 (Or.inl (tw hw 75 rfl)) (ty := .int) (by decide)
        have F626_elementData : Fld Z h626 b626 "java/util/ArrayList" "elementData" "[Ljava/lang/Object;" .null := D626 (Or.inl (tw hw 78 rfl)) (ty := (.array (.object "java/lang/Object"))) (by decide)
        have F626_size : Fld Z h626 b626 "java/util/ArrayList" "size" "I" (.int (0 : Int32)) := D626 (Or.inl (tw hw 110 rfl)) (ty := .int) (by decide)
        refine Go.dup (pc' := 64) C X626 at_63 rfl rfl ?_
        have O629 : Ext Z.heap h626 := (Ext.trans O627 E626)
        refine Go.callI (y := (⟨"java/util/ArrayList", "<init>", "()V"⟩ : MethodName)) (a := b626) (pc' := 67) C X626 rfl (tw hw 58 rfl) (tw hw 59 rfl) (by decide) (rm_alI l Z a0 hw b626 dc h626 O629 A626 F626_modCount F626_elementData F626_size SD n_b626) (tw hw 60 rfl) (tw hw 57 rfl) e626 (argsL := []) (rest := [(.ref b626)]) (W := 1) rfl rfl pd_3 rfl (Nat.le_of_eq rfl) rfl (by decide) (by decide) (by decide) (by decide) rfl at_64 rfl ?_
        intro T628 v628 L628 X628 q628
        obtain ⟨rfl, N628q, K628, P628_0, P628_1, P628_2⟩ := q628
        have N628 := Fr.app N620 N628q
        refine Go.astore (Ls' := #[.val (.int p1), .val (.int p2), .val (.int p3), .val (.int p4), .val (.int (7 : Int32)), .val (.int x), .val (.ref r_612), .val (.ref b613), .val (.ref b626), .unset]) (pc' := 69) C X628 at_67 rfl rfl rfl ?_
        refine Go.iload (pc' := 71) C X628 at_69 rfl rfl ?_
        refine Go.ifNo (pc' := 74) C X628 at_71 ((if0 _ _).trans (tlt (x := (0 : Int32)) (y := (7 : Int32)) (by decide)).2.2.2) rfl ?_
        refine Go.aload (pc' := 76) C X628 at_74 rfl rfl rfl ?_
        refine Go.aload (pc' := 78) C X628 at_76 rfl rfl rfl ?_
        have c632 : Exa Z T628.heap b626 "java/util/ArrayList" := (Exa.keep A626 K628)
        have c633 : Exa Z T628.heap b613 "com/example/tranche/tranche/journal/DefaultRateChange" := (Exa.keep (Exa.ext E626 (Exa.keep c621 K620)) K628)
        have O634 : Ext Z.heap T628.heap := (Ext.keep O629 K628 (allS n_b626 all0))
        refine Go.callV (y := (⟨"java/util/ArrayList", "add", "(Ljava/lang/Object;)Z"⟩ : MethodName)) (z := (⟨"java/util/ArrayList", "add", "(Ljava/lang/Object;)Z"⟩ : MethodName)) (a := b626) (pc' := 81) C X628 (tw hw 121 rfl) (tw hw 122 rfl) (notFace_at C.2.1 (tw hw 124 rfl)) (tw hw 124 rfl) (tw hw 123 rfl) c632 (by decide) (rm_add0 l Z a0 hw b626 b613 dc kd ((0 : Int32)) T628.heap O634 c632 c633 P628_0 P628_1 P628_2 SD AD n_b626) (tw hw 125 rfl) (tw hw 57 rfl) rfl (argsL := [(.ref b613)]) (rest := []) (W := 0) rfl rfl pd_23 rfl (Nat.le_of_eq rfl) rfl (by decide) (by decide) (by decide) (by decide) at_78 rfl ?_
        intro T631 v631 L631 X631 q631
        obtain ⟨w_631, kw_631, rfl, N631q, K631, B631_0, P631_0, P631_1, P631_2, P631_3, P631_4, p631_0⟩ := q631
        have N631 := Fr.app N628 N631q
        have n_w_631 : Z.heap.size ≤ w_631 := Nat.le_trans O634.1 B631_0
        have z_w_631 : h0.size ≤ w_631 := Nat.le_trans (Nat.le_trans (Nat.le_trans (Nat.le_trans (Nat.le_trans (Nat.le_trans (Nat.le_trans (Nat.le_trans (Nat.le_refl _) K612.1) E613.1) E615.1) K617.1) K620.1) E626.1) K628.1) B631_0
        refine Go.pop (pc' := 82) C X631 at_81 rfl rfl ?_
        refine Go.iload (pc' := 84) C X631 at_82 rfl rfl ?_
        refine Go.iconst (z := (1 : Int32)) (pc' := 85) C X631 at_84 rfl rfl ?_
        refine Go.icmpNo (pc' := 88) C X631 at_85 (tlt (x := (1 : Int32)) (y := (7 : Int32)) (by decide)).2.2.2 rfl ?_
        refine Go.aload (pc' := 90) C X631 at_88 rfl rfl rfl ?_
        refine Go.aload (pc' := 92) C X631 at_90 rfl rfl rfl ?_
        have c637 : Exa Z T631.heap b626 "java/util/ArrayList" := (Exa.keep c632 K631)
        have c638 : Exa Z T631.heap b613 "com/example/tranche/tranche/journal/DefaultRateChange" := (Exa.keep c633 K631)
        have O639 : Ext Z.heap T631.heap := (Ext.keep O634 K631 (allS n_b626 all0))
        refine Go.callV (y := (⟨"java/util/ArrayList", "add", "(Ljava/lang/Object;)Z"⟩ : MethodName)) (z := (⟨"java/util/ArrayList", "add", "(Ljava/lang/Object;)Z"⟩ : MethodName)) (a := b626) (pc' := 95) C X631 (tw hw 121 rfl) (tw hw 122 rfl) (notFace_at C.2.1 (tw hw 124 rfl)) (tw hw 124 rfl) (tw hw 123 rfl) c637 (by decide) (rm_add1 l Z a0 hw b626 b613 w_631 kw_631 (((0 : Int32) + (1 : Int32))) T631.heap O639 c637 c638 P631_0 P631_1 P631_2 P631_4 P631_3 n_b626 n_w_631 p631_0) (tw hw 125 rfl) (tw hw 57 rfl) rfl (argsL := [(.ref b613)]) (rest := []) (W := 0) rfl rfl pd_23 rfl (Nat.le_of_eq rfl) rfl (by decide) (by decide) (by decide) (by decide) at_92 rfl ?_
        intro T636 v636 L636 X636 q636
        obtain ⟨rfl, N636q, K636, P636_0, P636_1, P636_2, P636_3⟩ := q636
        have N636 := Fr.app N631 N636q
        refine Go.pop (pc' := 96) C X636 at_95 rfl rfl ?_
        refine Go.iload (pc' := 98) C X636 at_96 rfl rfl ?_
        refine Go.iconst (z := (2 : Int32)) (pc' := 99) C X636 at_98 rfl rfl ?_
        refine Go.icmpNo (pc' := 102) C X636 at_99 (tlt (x := (2 : Int32)) (y := (7 : Int32)) (by decide)).2.2.2 rfl ?_
        refine Go.aload (pc' := 104) C X636 at_102 rfl rfl rfl ?_
        refine Go.aload (pc' := 106) C X636 at_104 rfl rfl rfl ?_
        have c642 : Exa Z T636.heap b626 "java/util/ArrayList" := (Exa.keep c637 K636)
        have c643 : Exa Z T636.heap b613 "com/example/tranche/tranche/journal/DefaultRateChange" := (Exa.keep c638 K636)
        have c644 : Exa Z T636.heap w_631 "[Ljava/lang/Object;" := (Exa.keep P631_4 K636)
        have O645 : Ext Z.heap T636.heap := (Ext.keep O639 K636 (allS n_b626 (allS n_w_631 all0)))
        refine Go.callV (y := (⟨"java/util/ArrayList", "add", "(Ljava/lang/Object;)Z"⟩ : MethodName)) (z := (⟨"java/util/ArrayList", "add", "(Ljava/lang/Object;)Z"⟩ : MethodName)) (a := b626) (pc' := 109) C X636 (tw hw 121 rfl) (tw hw 122 rfl) (notFace_at C.2.1 (tw hw 124 rfl)) (tw hw 124 rfl) (tw hw 123 rfl) c642 (by decide) (rm_add2 l Z a0 hw b626 b613 w_631 kw_631 ((((0 : Int32) + (1 : Int32)) + (1 : Int32))) T636.heap O645 c642 c643 P636_0 P636_1 P636_2 c644 P636_3 n_b626 n_w_631 p631_0) (tw hw 125 rfl) (tw hw 57 rfl) rfl (argsL := [(.ref b613)]) (rest := []) (W := 0) rfl rfl pd_23 rfl (Nat.le_of_eq rfl) rfl (by decide) (by decide) (by decide) (by decide) at_106 rfl ?_
        intro T641 v641 L641 X641 q641
        obtain ⟨rfl, N641q, K641, P641_0, P641_1, P641_2, P641_3⟩ := q641
        have N641 := Fr.app N636 N641q
        refine Go.pop (pc' := 110) C X641 at_109 rfl rfl ?_
        refine Go.iload (pc' := 112) C X641 at_110 rfl rfl ?_
        refine Go.iconst (z := (3 : Int32)) (pc' := 113) C X641 at_112 rfl rfl ?_
        refine Go.icmpNo (pc' := 116) C X641 at_113 (tlt (x := (3 : Int32)) (y := (7 : Int32)) (by decide)).2.2.2 rfl ?_
        refine Go.aload (pc' := 118) C X641 at_116 rfl rfl rfl ?_
        refine Go.aload (pc' := 120) C X641 at_118 rfl rfl rfl ?_
        have c648 : Exa Z T641.heap b626 "java/util/ArrayList" := (Exa.keep c642 K641)
        have c649 : Exa Z T641.heap b613 "com/example/tranche/tranche/journal/DefaultRateChange" := (Exa.keep c643 K641)
        have c650 : Exa Z T641.heap w_631 "[Ljava/lang/Object;" := (Exa.keep c644 K641)
        have O651 : Ext Z.heap T641.heap := (Ext.keep O645 K641 (allS n_b626 (allS n_w_631 all0)))
        refine Go.callV (y := (⟨"java/util/ArrayList", "add", "(Ljava/lang/Object;)Z"⟩ : MethodName)) (z := (⟨"java/util/ArrayList", "add", "(Ljava/lang/Object;)Z"⟩ : MethodName)) (a := b626) (pc' := 123) C X641 (tw hw 121 rfl) (tw hw 122 rfl) (notFace_at C.2.1 (tw hw 124 rfl)) (tw hw 124 rfl) (tw hw 123 rfl) c648 (by decide) (rm_add3 l Z a0 hw b626 b613 w_631 kw_631 (((((0 : Int32) + (1 : Int32)) + (1 : Int32)) + (1 : Int32))) T641.heap O651 c648 c649 P641_0 P641_1 P641_2 c650 P641_3 n_b626 n_w_631 p631_0) (tw hw 125 rfl) (tw hw 57 rfl) rfl (argsL := [(.ref b613)]) (rest := []) (W := 0) rfl rfl pd_23 rfl (Nat.le_of_eq rfl) rfl (by decide) (by decide) (by decide) (by decide) at_120 rfl ?_
        intro T647 v647 L647 X647 q647
        obtain ⟨rfl, N647q, K647, P647_0, P647_1, P647_2, P647_3⟩ := q647
        have N647 := Fr.app N641 N647q
        refine Go.pop (pc' := 124) C X647 at_123 rfl rfl ?_
        refine Go.iload (pc' := 126) C X647 at_124 rfl rfl ?_
        refine Go.iconst (z := (4 : Int32)) (pc' := 127) C X647 at_126 rfl rfl ?_
        refine Go.icmpNo (pc' := 130) C X647 at_127 (tlt (x := (4 : Int32)) (y := (7 : Int32)) (by decide)).2.2.2 rfl ?_
        refine Go.aload (pc' := 132) C X647 at_130 rfl rfl rfl ?_
        refine Go.aload (pc' := 134) C X647 at_132 rfl rfl rfl ?_
        have c654 : Exa Z T647.heap b626 "java/util/ArrayList" := (Exa.keep c648 K647)
        have c655 : Exa Z T647.heap b613 "com/example/tranche/tranche/journal/DefaultRateChange" := (Exa.keep c649 K647)
        have c656 : Exa Z T647.heap w_631 "[Ljava/lang/Object;" := (Exa.keep c650 K647)
        have O657 : Ext Z.heap T647.heap := (Ext.keep O651 K647 (allS n_b626 (allS n_w_631 all0)))
        refine Go.callV (y := (⟨"java/util/ArrayList", "add", "(Ljava/lang/Object;)Z"⟩ : MethodName)) (z := (⟨"java/util/ArrayList", "add", "(Ljava/lang/Object;)Z"⟩ : MethodName)) (a := b626) (pc' := 137) C X647 (tw hw 121 rfl) (tw hw 122 rfl) (notFace_at C.2.1 (tw hw 124 rfl)) (tw hw 124 rfl) (tw hw 123 rfl) c654 (by decide) (rm_add4 l Z a0 hw b626 b613 w_631 kw_631 ((((((0 : Int32) + (1 : Int32)) + (1 : Int32)) + (1 : Int32)) + (1 : Int32))) T647.heap O657 c654 c655 P647_0 P647_1 P647_2 c656 P647_3 n_b626 n_w_631 p631_0) (tw hw 125 rfl) (tw hw 57 rfl) rfl (argsL := [(.ref b613)]) (rest := []) (W := 0) rfl rfl pd_23 rfl (Nat.le_of_eq rfl) rfl (by decide) (by decide) (by decide) (by decide) at_134 rfl ?_
        intro T653 v653 L653 X653 q653
        obtain ⟨rfl, N653q, K653, P653_0, P653_1, P653_2, P653_3⟩ := q653
        have N653 := Fr.app N647 N653q
        refine Go.pop (pc' := 138) C X653 at_137 rfl rfl ?_
        refine Go.iload (pc' := 140) C X653 at_138 rfl rfl ?_
        refine Go.iconst (z := (5 : Int32)) (pc' := 141) C X653 at_140 rfl rfl ?_
        refine Go.icmpNo (pc' := 144) C X653 at_141 (tlt (x := (5 : Int32)) (y := (7 : Int32)) (by decide)).2.2.2 rfl ?_
        refine Go.aload (pc' := 146) C X653 at_144 rfl rfl rfl ?_
        refine Go.aload (pc' := 148) C X653 at_146 rfl rfl rfl ?_
        have c660 : Exa Z T653.heap b626 "java/util/ArrayList" := (Exa.keep c654 K653)
        have c661 : Exa Z T653.heap b613 "com/example/tranche/tranche/journal/DefaultRateChange" := (Exa.keep c655 K653)
        have c662 : Exa Z T653.heap w_631 "[Ljava/lang/Object;" := (Exa.keep c656 K653)
        have O663 : Ext Z.heap T653.heap := (Ext.keep O657 K653 (allS n_b626 (allS n_w_631 all0)))
        refine Go.callV (y := (⟨"java/util/ArrayList", "add", "(Ljava/lang/Object;)Z"⟩ : MethodName)) (z := (⟨"java/util/ArrayList", "add", "(Ljava/lang/Object;)Z"⟩ : MethodName)) (a := b626) (pc' := 151) C X653 (tw hw 121 rfl) (tw hw 122 rfl) (notFace_at C.2.1 (tw hw 124 rfl)) (tw hw 124 rfl) (tw hw 123 rfl) c660 (by decide) (rm_add5 l Z a0 hw b626 b613 w_631 kw_631 (((((((0 : Int32) + (1 : Int32)) + (1 : Int32)) + (1 : Int32)) + (1 : Int32)) + (1 : Int32))) T653.heap O663 c660 c661 P653_0 P653_1 P653_2 c662 P653_3 n_b626 n_w_631 p631_0) (tw hw 125 rfl) (tw hw 57 rfl) rfl (argsL := [(.ref b613)]) (rest := []) (W := 0) rfl rfl pd_23 rfl (Nat.le_of_eq rfl) rfl (by decide) (by decide) (by decide) (by decide) at_148 rfl ?_
        intro T659 v659 L659 X659 q659
        obtain ⟨rfl, N659q, K659, P659_0, P659_1, P659_2, P659_3⟩ := q659
        have N659 := Fr.app N653 N659q
        refine Go.pop (pc' := 152) C X659 at_151 rfl rfl ?_
        refine Go.iload (pc' := 154) C X659 at_152 rfl rfl ?_
        refine Go.bipush (z := (6 : Int32)) (pc' := 156) C X659 at_154 rfl rfl ?_
        refine Go.icmpNo (pc' := 159) C X659 at_156 (tlt (x := (6 : Int32)) (y := (7 : Int32)) (by decide)).2.2.2 rfl ?_
        refine Go.aload (pc' := 161) C X659 at_159 rfl rfl rfl ?_
        refine Go.aload (pc' := 163) C X659 at_161 rfl rfl rfl ?_
        have c666 : Exa Z T659.heap b626 "java/util/ArrayList" := (Exa.keep c660 K659)
        have c667 : Exa Z T659.heap b613 "com/example/tranche/tranche/journal/DefaultRateChange" := (Exa.keep c661 K659)
        have c668 : Exa Z T659.heap w_631 "[Ljava/lang/Object;" := (Exa.keep c662 K659)
        have O669 : Ext Z.heap T659.heap := (Ext.keep O663 K659 (allS n_b626 (allS n_w_631 all0)))
        refine Go.callV (y := (⟨"java/util/ArrayList", "add", "(Ljava/lang/Object;)Z"⟩ : MethodName)) (z := (⟨"java/util/ArrayList", "add", "(Ljava/lang/Object;)Z"⟩ : MethodName)) (a := b626) (pc' := 166) C X659 (tw hw 121 rfl) (tw hw 122 rfl) (notFace_at C.2.1 (tw hw 124 rfl)) (tw hw 124 rfl) (tw hw 123 rfl) c666 (by decide) (rm_add6 l Z a0 hw b626 b613 w_631 kw_631 ((((((((0 : Int32) + (1 : Int32)) + (1 : Int32)) + (1 : Int32)) + (1 : Int32)) + (1 : Int32)) + (1 : Int32))) T659.heap O669 c666 c667 P659_0 P659_1 P659_2 c668 P659_3 n_b626 n_w_631 p631_0) (tw hw 125 rfl) (tw hw 57 rfl) rfl (argsL := [(.ref b613)]) (rest := []) (W := 0) rfl rfl pd_23 rfl (Nat.le_of_eq rfl) rfl (by decide) (by decide) (by decide) (by decide) at_163 rfl ?_
        intro T665 v665 L665 X665 q665
        obtain ⟨rfl, N665q, K665, P665_0, P665_1, P665_2, P665_3⟩ := q665
        have N665 := Fr.app N659 N665q
        refine Go.pop (pc' := 167) C X665 at_166 rfl rfl ?_
        have O671 : Ext Z.heap T665.heap := (Ext.keep O669 K665 (allS n_b626 (allS n_w_631 all0)))
        refine Go.newO (pc' := 170) C X665 (tw hw 79 rfl) (tw hw 80 rfl) (tw hw 81 rfl) rfl (by decide) (by decide) at_167 rfl ?_
        intro T670 h670 b670 X670 e670 g670 E670 A670 D670
        have n_b670 : Z.heap.size ≤ b670 := Nat.le_trans O671.1 (Nat.le_of_eq g670.symm)
        have z_b670 : h0.size ≤ b670 := Nat.le_trans (Nat.le_trans (Nat.le_trans (Nat.le_trans (Nat.le_trans (Nat.le_trans (Nat.le_trans (Nat.le_trans (Nat.le_trans (Nat.le_trans (Nat.le_trans (Nat.le_trans (Nat.le_trans (Nat.le_trans (Nat.le_trans (Nat.le_refl _) K612.1) E613.1) E615.1) K617.1) K620.1) E626.1) K628.1) K631.1) K636.1) K641.1) K647.1) K653.1) K659.1) K665.1) (Nat.le_of_eq g670.symm)
        have F670_source : Fld Z h670 b670 "com/example/tranche/tranche/journal/Journal" "source" "Ljava/lang/String;" .null := D670 (Or.inr (tw hw 116 rfl)) (ty := (.object "java/lang/String")) (by decide)
        have F670_events : Fld Z h670 b670 "com/example/tranche/tranche/journal/Journal" "events" "Ljava/util/List;" .null := D670 (Or.inr (tw hw 118 rfl)) (ty := (.object "java/util/List")) (by decide)
        have F670_incomplete : Fld Z h670 b670 "com/example/tranche/tranche/journal/Journal" "incomplete" "Z" (.int (0 : Int32)) := D670 (Or.inr (tw hw 120 rfl)) (ty := .boolean) (by decide)
        refine Go.dup (pc' := 171) C X670 at_170 rfl rfl ?_
        refine Go.aload (pc' := 173) C X670 at_171 rfl rfl rfl ?_
        refine Go.aload (pc' := 175) C X670 at_173 rfl rfl rfl ?_
        refine Go.iload (pc' := 177) C X670 at_175 rfl rfl ?_
        have c673 : Exa Z h670 b626 "java/util/ArrayList" := (Exa.ext E670 (Exa.keep c666 K665))
        have c674 : Fld Z h670 b626 "java/util/ArrayList" "elementData" "[Ljava/lang/Object;" (.ref w_631) := (Fld.ext E670 P665_1)
        have c675 : Fld Z h670 b626 "java/util/ArrayList" "size" "I" (.int (7 : Int32)) := (Fld.ext E670 P665_2)
        have c676 : Exa Z h670 w_631 "[Ljava/lang/Object;" := (Exa.ext E670 (Exa.keep c668 K665))
        have c677 : AL Z h670 w_631 kw_631 (.object "java/lang/Object") [(.ref b613), (.ref b613), (.ref b613), (.ref b613), (.ref b613), (.ref b613), (.ref b613), .null, .null, .null] := (AL.ext E670 P665_3)
        have c678 : Exa Z h670 b613 "com/example/tranche/tranche/journal/DefaultRateChange" := (Exa.ext E670 (Exa.keep c667 K665))
        have O679 : Ext Z.heap h670 := (Ext.trans O671 E670)
        refine Go.callI (y := (⟨"com/example/tranche/tranche/journal/Journal", "<init>", "(Ljava/lang/String;Ljava/util/List;Z)V"⟩ : MethodName)) (a := b670) (pc' := 180) C X670 rfl (tw hw 82 rfl) (tw hw 83 rfl) (by decide) (rm_jI7 l Z a0 hw b670 r_612 x b626 b613 w_631 kw_631 mr h670 O679 A670 F670_source F670_events F670_incomplete c673 c674 c675 c676 c677 c678 hM n_b670) (tw hw 84 rfl) (tw hw 81 rfl) e670 (argsL := [(.ref r_612), (.ref b626), (.int x)]) (rest := [(.ref b670)]) (W := 1) rfl rfl pd_22 rfl (Nat.le_of_eq rfl) rfl (by decide) (by decide) (by decide) (by decide) rfl at_177 rfl ?_
        intro T672 v672 L672 X672 q672
        obtain ⟨r_672, q_672, kq_672, rfl, N672q, K672, B672_0, B672_1, P672_0, P672_1, P672_2, P672_3⟩ := q672
        have N672 := Fr.app N665 N672q
        have n_r_672 : Z.heap.size ≤ r_672 := Nat.le_trans O679.1 B672_0
        have z_r_672 : h0.size ≤ r_672 := Nat.le_trans (Nat.le_trans (Nat.le_trans (Nat.le_trans (Nat.le_trans (Nat.le_trans (Nat.le_trans (Nat.le_trans (Nat.le_trans (Nat.le_trans (Nat.le_trans (Nat.le_trans (Nat.le_trans (Nat.le_trans (Nat.le_trans (Nat.le_trans (Nat.le_refl _) K612.1) E613.1) E615.1) K617.1) K620.1) E626.1) K628.1) K631.1) K636.1) K641.1) K647.1) K653.1) K659.1) K665.1) E670.1) B672_0
        have n_q_672 : Z.heap.size ≤ q_672 := Nat.le_trans O679.1 B672_1
        have z_q_672 : h0.size ≤ q_672 := Nat.le_trans (Nat.le_trans (Nat.le_trans (Nat.le_trans (Nat.le_trans (Nat.le_trans (Nat.le_trans (Nat.le_trans (Nat.le_trans (Nat.le_trans (Nat.le_trans (Nat.le_trans (Nat.le_trans (Nat.le_trans (Nat.le_trans (Nat.le_trans (Nat.le_refl _) K612.1) E613.1) E615.1) K617.1) K620.1) E626.1) K628.1) K631.1) K636.1) K641.1) K647.1) K653.1) K659.1) K665.1) E670.1) B672_1
        refine Go.astore (Ls' := #[.val (.int p1), .val (.int p2), .val (.int p3), .val (.int p4), .val (.int (7 : Int32)), .val (.int x), .val (.ref r_612), .val (.ref b613), .val (.ref b626), .val (.ref b670)]) (pc' := 182) C X672 at_180 rfl rfl rfl ?_
        refine Go.aload (pc' := 184) C X672 at_182 rfl rfl rfl ?_
        refine Go.aload (pc' := 186) C X672 at_184 rfl rfl rfl ?_
        have c681 : Exa Z T672.heap b626 "java/util/ArrayList" := (Exa.keep c673 K672)
        have c682 : Exa Z T672.heap b613 "com/example/tranche/tranche/journal/DefaultRateChange" := (Exa.keep c678 K672)
        have ne683 : b626 ≠ b670 := Nat.ne_of_lt (Nat.lt_of_lt_of_le A626.lt (Nat.le_trans (Nat.le_trans (Nat.le_trans (Nat.le_trans (Nat.le_trans (Nat.le_trans (Nat.le_trans (Nat.le_trans (Nat.le_trans (Nat.le_refl _) K628.1) K631.1) K636.1) K641.1) K647.1) K653.1) K659.1) K665.1) (Nat.le_of_eq g670.symm)))
        have c684 : Fld Z T672.heap b626 "java/util/AbstractList" "modCount" "I" (.int ((((((((0 : Int32) + (1 : Int32)) + (1 : Int32)) + (1 : Int32)) + (1 : Int32)) + (1 : Int32)) + (1 : Int32)) + (1 : Int32))) := (Fld.keep (Fld.ext E670 P665_0) K672 (ninS ne683 nin0))
        have c685 : Fld Z T672.heap b626 "java/util/ArrayList" "elementData" "[Ljava/lang/Object;" (.ref w_631) := (Fld.keep c674 K672 (ninS ne683 nin0))
        have c686 : Fld Z T672.heap b626 "java/util/ArrayList" "size" "I" (.int (7 : Int32)) := (Fld.keep c675 K672 (ninS ne683 nin0))
        have c687 : Exa Z T672.heap w_631 "[Ljava/lang/Object;" := (Exa.keep c676 K672)
        have ne688 : w_631 ≠ b670 := Nat.ne_of_lt (Nat.lt_of_lt_of_le P631_3.lt (Nat.le_trans (Nat.le_trans (Nat.le_trans (Nat.le_trans (Nat.le_trans (Nat.le_trans (Nat.le_trans (Nat.le_refl _) K636.1) K641.1) K647.1) K653.1) K659.1) K665.1) (Nat.le_of_eq g670.symm)))
        have c689 : AL Z T672.heap w_631 kw_631 (.object "java/lang/Object") [(.ref b613), (.ref b613), (.ref b613), (.ref b613), (.ref b613), (.ref b613), (.ref b613), .null, .null, .null] := (AL.keep c677 K672 (ninS ne688 nin0))
        have O690 : Ext Z.heap T672.heap := (Ext.keep O679 K672 (allS n_b670 all0))
        refine Go.callV (y := (⟨"java/util/ArrayList", "add", "(Ljava/lang/Object;)Z"⟩ : MethodName)) (z := (⟨"java/util/ArrayList", "add", "(Ljava/lang/Object;)Z"⟩ : MethodName)) (a := b626) (pc' := 189) C X672 (tw hw 121 rfl) (tw hw 122 rfl) (notFace_at C.2.1 (tw hw 124 rfl)) (tw hw 124 rfl) (tw hw 123 rfl) c681 (by decide) (rm_add7 l Z a0 hw b626 b613 w_631 kw_631 (((((((((0 : Int32) + (1 : Int32)) + (1 : Int32)) + (1 : Int32)) + (1 : Int32)) + (1 : Int32)) + (1 : Int32)) + (1 : Int32))) T672.heap O690 c681 c682 c684 c685 c686 c687 c689 n_b626 n_w_631 p631_0) (tw hw 125 rfl) (tw hw 57 rfl) rfl (argsL := [(.ref b613)]) (rest := []) (W := 0) rfl rfl pd_23 rfl (Nat.le_of_eq rfl) rfl (by decide) (by decide) (by decide) (by decide) at_186 rfl ?_
        intro T680 v680 L680 X680 q680
        obtain ⟨rfl, N680q, K680, P680_0, P680_1, P680_2, P680_3⟩ := q680
        have N680 := Fr.app N672 N680q
        refine Go.pop (pc' := 190) C X680 at_189 rfl rfl ?_
        refine Go.aload (pc' := 192) C X680 at_190 rfl rfl rfl ?_
        have c692 : Fld Z T680.heap b670 "com/example/tranche/tranche/journal/Journal" "events" "Ljava/util/List;" (.ref r_672) := (Fld.keep P672_0 K680 (ninS (Ne.symm ne683) (ninS (Ne.symm ne688) nin0)))
        have c693 : Exa Z T680.heap r_672 "java/util/ImmutableCollections$ListN" := (Exa.keep P672_1 K680)
        have ne694 : r_672 ≠ w_631 := (Nat.ne_of_gt (Nat.lt_of_lt_of_le P631_3.lt (Nat.le_trans (Nat.le_trans (Nat.le_trans (Nat.le_trans (Nat.le_trans (Nat.le_trans (Nat.le_trans (Nat.le_trans (Nat.le_refl _) K636.1) K641.1) K647.1) K653.1) K659.1) K665.1) E670.1) B672_0)))
        have ne695 : r_672 ≠ b626 := (Nat.ne_of_gt (Nat.lt_of_lt_of_le A626.lt (Nat.le_trans (Nat.le_trans (Nat.le_trans (Nat.le_trans (Nat.le_trans (Nat.le_trans (Nat.le_trans (Nat.le_trans (Nat.le_trans (Nat.le_trans (Nat.le_refl _) K628.1) K631.1) K636.1) K641.1) K647.1) K653.1) K659.1) K665.1) E670.1) B672_0)))
        have c696 : Fld Z T680.heap r_672 "java/util/ImmutableCollections$ListN" "elements" "[Ljava/lang/Object;" (.ref q_672) := (Fld.keep P672_2 K680 (ninS ne695 (ninS ne694 nin0)))
        have ne697 : q_672 ≠ w_631 := (Nat.ne_of_gt (Nat.lt_of_lt_of_le P631_3.lt (Nat.le_trans (Nat.le_trans (Nat.le_trans (Nat.le_trans (Nat.le_trans (Nat.le_trans (Nat.le_trans (Nat.le_trans (Nat.le_refl _) K636.1) K641.1) K647.1) K653.1) K659.1) K665.1) E670.1) B672_1)))
        have ne698 : q_672 ≠ b626 := (Nat.ne_of_gt (Nat.lt_of_lt_of_le A626.lt (Nat.le_trans (Nat.le_trans (Nat.le_trans (Nat.le_trans (Nat.le_trans (Nat.le_trans (Nat.le_trans (Nat.le_trans (Nat.le_trans (Nat.le_trans (Nat.le_refl _) K628.1) K631.1) K636.1) K641.1) K647.1) K653.1) K659.1) K665.1) E670.1) B672_1)))
        have c699 : AL Z T680.heap q_672 kq_672 (.object "java/lang/Object") [(.ref b613), (.ref b613), (.ref b613), (.ref b613), (.ref b613), (.ref b613), (.ref b613)] := (AL.keep P672_3 K680 (ninS ne698 (ninS ne697 nin0)))
        have O700 : Ext Z.heap T680.heap := (Ext.keep O690 K680 (allS n_b626 (allS n_w_631 all0)))
        have c701 : Exa Z T680.heap b670 "com/example/tranche/tranche/journal/Journal" := (Exa.keep (Exa.keep A670 K672) K680)
        refine Go.callV (y := (⟨"com/example/tranche/tranche/journal/Journal", "nextLine", "()I"⟩ : MethodName)) (z := (⟨"com/example/tranche/tranche/journal/Journal", "nextLine", "()I"⟩ : MethodName)) (a := b670) (pc' := 195) C X680 (tw hw 150 rfl) (tw hw 151 rfl) (notFace_at C.2.1 (tw hw 153 rfl)) (tw hw 153 rfl) (tw hw 152 rfl) c701 (by decide) (rm_nl7 l Z a0 hw b670 r_672 q_672 kq_672 b613 T680.heap O700 c692 c693 c696 c699) (tw hw 154 rfl) (tw hw 81 rfl) rfl (argsL := []) (rest := []) (W := 0) rfl rfl pd_18 rfl (Nat.le_of_eq rfl) rfl (by decide) (by decide) (by decide) (by decide) at_192 rfl ?_
        intro T691 v691 L691 X691 q691
        obtain ⟨rfl, rfl, e691⟩ := q691
        have N691 := Fr.app N680 (Fr.nil _)
        refine Go.iload (pc' := 197) C X691 at_195 rfl rfl ?_
        refine Go.iconst (z := (1 : Int32)) (pc' := 198) C X691 at_197 rfl rfl ?_
        refine Go.iadd (pc' := 199) C X691 at_198 rfl ?_
        rw [show ((7 : Int32) + (1 : Int32)) = (8 : Int32) from by decide]
        refine Go.icmpNo (pc' := 202) C X691 at_199 (teq (x := (8 : Int32)) (y := (8 : Int32)) (by decide)).2 rfl ?_
        refine Go.iconst (z := (1 : Int32)) (pc' := 203) C X691 at_202 rfl rfl ?_
        refine Go.goto (pc' := 207) C X691 at_203 (by decide) (by decide) ?_
        have K703 : Keep h0 T680.heap [] := ((((((((((((((((((Keep.refl h0 []).trans K612 all0).ext E613).ext E615).trans K617 (allS (Or.inr z_b615) all0)).trans K620 (allS (Or.inr z_b613) all0)).ext E626).trans K628 (allS (Or.inr z_b626) all0)).trans K631 (allS (Or.inr z_b626) all0)).trans K636 (allS (Or.inr z_b626) (allS (Or.inr z_w_631) all0))).trans K641 (allS (Or.inr z_b626) (allS (Or.inr z_w_631) all0))).trans K647 (allS (Or.inr z_b626) (allS (Or.inr z_w_631) all0))).trans K653 (allS (Or.inr z_b626) (allS (Or.inr z_w_631) all0))).trans K659 (allS (Or.inr z_b626) (allS (Or.inr z_w_631) all0))).trans K665 (allS (Or.inr z_b626) (allS (Or.inr z_w_631) all0))).ext E670).trans K672 (allS (Or.inr z_b670) all0)).trans K680 (allS (Or.inr z_b626) (allS (Or.inr z_w_631) all0)))
        exact Go.retN C X691 rfl at_207 (by simp) (by rw [e691]; exact ⟨rfl, N691, K703⟩) (by decide) (by decide)
      by_cases hc47_704 : (p2 &&& (2 : Int32)) = (0 : Int32)
      · refine Go.ifYes (pc' := 54) C X617 at_47 ((if0 _ _).trans (teq (x := (p2 &&& (2 : Int32))) (y := (0 : Int32)) hc47_704).1) (by decide) (by decide) ?_
        refine Go.iconst (z := (0 : Int32)) (pc' := 55) C X617 at_54 rfl rfl ?_
        exact K55 _ _ X617 rfl N617 (0 : Int32) 
      · refine Go.ifNo (pc' := 50) C X617 at_47 ((if0 _ _).trans (feq (x := (p2 &&& (2 : Int32))) (y := (0 : Int32)) hc47_704).1) rfl ?_
        refine Go.iconst (z := (1 : Int32)) (pc' := 51) C X617 at_50 rfl rfl ?_
        refine Go.goto (pc' := 55) C X617 at_51 (by decide) (by decide) ?_
        exact K55 _ _ X617 rfl N617 (1 : Int32) 
    by_cases hc9_705 : (p2 &&& (1 : Int32)) = (0 : Int32)
    · refine Go.ifYes (pc' := 16) C X0 at_9 ((if0 _ _).trans (teq (x := (p2 &&& (1 : Int32))) (y := (0 : Int32)) hc9_705).1) (by decide) (by decide) ?_
      refine Go.iconst (z := (0 : Int32)) (pc' := 17) C X0 at_16 rfl rfl ?_
      exact K17 _ _ X0 e0 N0 (0 : Int32) 
    · refine Go.ifNo (pc' := 12) C X0 at_9 ((if0 _ _).trans (feq (x := (p2 &&& (1 : Int32))) (y := (0 : Int32)) hc9_705).1) rfl ?_
      refine Go.iconst (z := (1 : Int32)) (pc' := 13) C X0 at_12 rfl rfl ?_
      refine Go.goto (pc' := 17) C X0 at_13 (by decide) (by decide) ?_
      exact K17 _ _ X0 e0 N0 (1 : Int32) 
theorem eqI_v {args : Array Value} {Z : State} {t : Term} {x n : Int32} (h : t.eval args Z none [] Z = some (.int x)) : (Jvm.Cond.eq t (.int n)).value args Z none Z [] = some (decide (x = n)) := by simp [Cond.value, Term.eval, h]
theorem own_eqI {args : Array Value} {Z : State} {t : Term} {n : Int32} (h : (Jvm.Cond.eq t (.int n)).value args Z none Z [] = some true) : t.eval args Z none [] Z = some (.int n) := by
  simp only [Cond.value, Term.eval] at h
  cases ht : t.eval args Z none [] Z with
  | none => simp [ht] at h
  | some x => cases x <;> simp [ht] at h ⊢; exact h
theorem own_al0 {args : Array Value} {Z : State} {t : Term} {a : Addr} {c : Cell} {ty : FieldType} (ev : t.eval args Z none [] Z = some (.ref a)) (A : Arr Z Z.heap a c ty) (h : (Jvm.Cond.eq (.length t) (.int 0)).value args Z none Z [] = some true) : AL Z Z.heap a c.cls ty [] := by
  have e := own_eqI h
  obtain ⟨x, cell, e1, e2, e3⟩ := Term.length_spec e
  cases ev.symm.trans e1
  have q := IntBox.arrayAt_of A.1 A.2.1 A.2.2
  cases q.symm.trans e2
  by_cases hl : c.slots.size < 2 ^ 31
  · have h0 : c.slots.size.toInt32 = 0 := (Value.int.inj e3).symm
    have h1 := len_toInt hl
    rw [h0] at h1
    have h2 : c.slots.size = 0 := by have : (0 : Int32).toInt = 0 := rfl; omega
    exact ⟨c, A, rfl, Array.eq_empty_of_size_eq_zero h2⟩
  · simp [Term.eval, ev, e2, hl] at e
set_option maxRecDepth 65536 in
set_option maxHeartbeats 40000000 in
theorem comes_1 {Post : Tables → Env → Array Value → State → Outcome → State → Prop} (hpost : ∀ tb e args s v u, (limb_1_1.after args s (.returned v) u = true ∧ limb_1_2.after args s (.returned v) u = true ∧ True) → FrameEnd s (.returned v) u (Jvm.fieldLocs frame_1_writes args s ++ Jvm.arrayLocs frame_1_arrays args s ++ Jvm.staticLocs frame_1_statics s) 32 192 → Post tb e args s (.returned v) u) :
    ArmFor flags0 classFile x code maxLocals ret World_1 tables_1 room_1 Calls_1 rest_1 Pre_1 Post := by
  intro l hfl _ _ p e ha hc hk s m args below hf hA hF happ hP
  obtain ⟨hcalls, hrest, hpre⟩ := hP
  obtain ⟨-, -, -, hnamed, -, -, -, hat⟩ := (Spec.applies_iff hf).mp happ
  obtain ⟨hg, hn⟩ := and_e (Cond.before_iff.mp (show (Jvm.Cond.and given_1 narrow_1).before args s = true from hpre))
  obtain ⟨g1, g2⟩ := and_e hg
  obtain ⟨g3, g4⟩ := and_e g2
  obtain ⟨g5, g6⟩ := and_e g4
  obtain ⟨g7, g8⟩ := and_e g6
  obtain ⟨w0, w1, w2, w3, rfl⟩ : ∃ w0 w1 w2 w3 : Value, args = #[w0, w1, w2, w3] := by
    have hs : args.size = 4 := by simpa [Cond.value, given_1] using g1
    obtain ⟨L⟩ := args
    match L, hs with
    | [w0, w1, w2, w3], _ => exact ⟨w0, w1, w2, w3, rfl⟩
  have hw := fun d (hd : d ∈ tables_1) => atoms_spec (ws := Jvm.Cond.code x code maxLocals ret :: tables_1) hat d (List.mem_cons_of_mem _ hd)
  have hfit : Fit s := fun {y c} hc i hi => by
    obtain ⟨ha, rfl⟩ := Array.getElem?_eq_some_iff.mp hc
    have q := List.all_eq_true.mp ((Array.all_eq_true_iff_forall_mem.mp hF) _ (Array.getElem_mem ha)) i (List.mem_range.mpr hi)
    simpa [Array.getElem?_eq_getElem hi] using q
  obtain ⟨hsets, hown0⟩ := atoms_of _ (rest_1_c_eq ▸ (show rest_1_c.before _ s = true from hrest))
  obtain ⟨i0, ei0⟩ := is_v g3
  obtain rfl : w0 = (.int i0) := Option.some.inj ei0
  obtain ⟨i1, ei1⟩ := is_v g5
  obtain rfl : w1 = (.int i1) := Option.some.inj ei1
  obtain ⟨i2, ei2⟩ := is_v g7
  obtain rfl : w2 = (.int i2) := Option.some.inj ei2
  obtain ⟨i3, ei3⟩ := is_v g8
  obtain rfl : w3 = (.int i3) := Option.some.inj ei3
  obtain ⟨cp, vcp⟩ := is_v (Cond.before_iff.mp (hsets _ (List.mem_of_getElem? (i := 1) rfl)))
  have SCs := Sta.start vcp (Or.inl (hsets _ (List.mem_of_getElem? (i := 0) rfl)))
  have hcp : ¬ cp = (0 : Int32) := gotF (eqI_v vcp) (not_v (Cond.before_iff.mp (hsets _ (List.mem_of_getElem? (i := 2) rfl))))
  obtain ⟨dc, vdc⟩ := exa_v (Cond.before_iff.mp (hsets _ (List.mem_of_getElem? (i := 16) rfl)))
  have SDs := Sta.start vdc (Or.inr ⟨(tw hw 57 rfl), (hsets _ (List.mem_of_getElem? (i := 11) rfl))⟩)
  have Edc := Exa.start vdc (Cond.before_iff.mp (hsets _ (List.mem_of_getElem? (i := 16) rfl)))
  obtain ⟨cdc, rdc⟩ := Arr.start vdc (Cond.before_iff.mp (hsets _ (List.mem_of_getElem? (i := 15) rfl)))
  have ADs := own_al0 vdc rdc (Cond.before_iff.mp (hsets _ (List.mem_of_getElem? (i := 17) rfl)))
  obtain ⟨em, vem⟩ := exa_v (Cond.before_iff.mp (hsets _ (List.mem_of_getElem? (i := 27) rfl)))
  have SEs := Sta.start vem (Or.inr ⟨(tw hw 92 rfl), (hsets _ (List.mem_of_getElem? (i := 25) rfl))⟩)
  have Ees := Exa.start vem (Cond.before_iff.mp (hsets _ (List.mem_of_getElem? (i := 27) rfl)))
  obtain ⟨el, vel⟩ := exa_v (Cond.before_iff.mp (hsets _ (List.mem_of_getElem? (i := 20) rfl)))
  have SLs := Sta.start vel (Or.inr ⟨(tw hw 92 rfl), (hsets _ (List.mem_of_getElem? (i := 18) rfl))⟩)
  have Els := Exa.start vel (Cond.before_iff.mp (hsets _ (List.mem_of_getElem? (i := 20) rfl)))
  obtain ⟨ea, vea⟩ := arr_v (Cond.before_iff.mp (hsets _ (List.mem_of_getElem? (i := 21) rfl)))
  obtain ⟨cea, rea⟩ := Arr.start vea (Cond.before_iff.mp (hsets _ (List.mem_of_getElem? (i := 21) rfl)))
  have Als := own_al0 vea rea (Cond.before_iff.mp (hsets _ (List.mem_of_getElem? (i := 23) rfl)))
  have vfl := vea
  rw [fld_at vel] at vfl
  have Fls := Fld.start vfl
  obtain ⟨⟨cmr, kmr, mr, qmr⟩, -⟩ := hcalls
  have hM : Mir s "[Ljava/lang/Object;" mr := ⟨cmr, kmr, qmr⟩
  obtain ⟨n, o, h1, h2, h3, _, L, rfl, ⟨rfl, N, -⟩, hq⟩ := rm_law l s _ hw i0 i1 i2 i3 cp dc cdc.cls em el ea cea.cls mr s.heap (Ext.refl _) SCs SDs ADs SEs Ees SLs Els Fls Als hcp hM tables_1 p e ha hc hk s m _ below hf ((Spec.applies_iff_loose hf).mp happ).1 ⟨rfl, State.Warmed39.refl s, rfl⟩ trivial
  refine ⟨n, _, h1, h2, h3, hpost _ _ _ _ _ _ ⟨Cond.after_iff.mpr rfl, Cond.after_iff.mpr (eq_i res_at (Term.int_eval (1)) rfl), trivial⟩ ⟨hq.1, hq.2.1, (hq.2.2.sift fun y hy => Or.inr (N y hy)).mono (by decide) (by decide)⟩⟩
theorem main_1_1 : Claimed_1_1 := comes_1 fun _ _ _ _ _ _ h hF => ⟨h.1, hF⟩
theorem main_1_2 : Claimed_1_2 := comes_1 fun _ _ _ _ _ _ h hF => ⟨h.2.1, hF⟩
end Jvm.Pilot.@@N@@
namespace Jvm.Pilot.@@N@@
open Jvm Jvm.ClassFile Sem Op Lib Jvm.Free Jvm.Stand Jvm.Pilot.@@N@@.Jvm.D
/-! MADE BY PROGRAM (witnessworld.py) out of the Statement's table words and the real class files: 40 classes; the members and pool entries that the words name. The judged class is class 1, her method 1. -/
namespace start1
open Jvm.ClassFile
def u (s : String) : CpInfo := .utf8 (stringToUtf16 s)
/-- a pool by its gaps: so many unusable entries, then the entry; so many at the end -/
def gap : Nat → List CpInfo → List CpInfo
  | 0, r => r
  | n + 1, r => .unusable :: gap n r
def poolList (es : List (Nat × CpInfo)) (last : Nat) : List CpInfo := es.foldr (fun e r => gap e.1 (e.2 :: r)) (gap last [])
def pool (es : List (Nat × CpInfo)) (last : Nat) : Array CpInfo := ⟨poolList es last⟩
def fileOf (pool : Array CpInfo) (this : Nat) (attrs : Array Attribute := #[]) (ms : Array MethodInfo := #[]) (fl : Nat := 33) (sup : Nat := 0) (ifs : Array Nat := #[]) (fds : Array FieldInfo := #[]) : ClassFile where
  minorVersion := 0
  majorVersion := 65
  constantPool := pool
  accessFlags := fl
  thisClass := this
  superClass := sup
  interfaces := ifs
  fields := fds
  methods := ms
  attributes := attrs
def plain (name : String) (sup : Option ClassId) : Class where
  name := name
  kind := .ordinary
  loader := none
  accessFlags := 33
  super := sup
  interfaces := #[]
  cf := none
  fields := #[]
  methods := #[]
  instanceTypes := #[]
  staticTypes := #[]
  resolved := #[]
  callSites := []
  init := .initialized
  statics := none
  mirror := none

def pool0 : Array CpInfo := pool [(5, u "<init>"), (0, u "()V"), (1, .class_ 10), (1, u "java/lang/Object"), (0, u "getClass"), (0, u "()Ljava/lang/Class;")] 111

def k0c0 : Code := { maxStack := 0, maxLocals := 1, code := object_method_1_code, exceptionTable := #[], attributes := #[] }
def k0m0 : Method := { name := "<init>", desc := "()V", sig := { parameters := [], returnType := none }, accessFlags := 1, code := some k0c0 }
def k0m1 : Method := { name := "getClass", desc := "()Ljava/lang/Class;", sig := { parameters := [], returnType := some (.object "java/lang/Class") }, accessFlags := 273, code := none }
/-- java/lang/Object -/
def k0 : Class := { plain "java/lang/Object" none with
  accessFlags := 33
  interfaces := #[]
  cf := some (fileOf pool0 8 #[] #[{ accessFlags := 1, nameIndex := 5, descriptorIndex := 6, attributes := #[] }, { accessFlags := 273, nameIndex := 11, descriptorIndex := 12, attributes := #[] }] 33 0 #[] #[])
  fields := #[]
  methods := #[k0m0, k0m1]
  instanceTypes := #[]
  staticTypes := #[]
  resolved := Array.replicate 124 none
  statics := none }

def pool1 : Array CpInfo := pool [(2, .class_ 4), (0, .nameAndType 5 6), (0, u "java/lang/Object"), (0, u "<init>"), (0, u "()V"), (0, .methodref 8 9), (0, .class_ 10), (0, .nameAndType 11 12), (0, u "java/lang/String"), (0, u "valueOf"), (0, u "(C)Ljava/lang/String;"), (0, .class_ 14), (0, u "com/example/tranche/tranche/journal/DefaultRateChange"), (0, .class_ 16), (0, u "com/example/tranche/tranche/journal/Entry"), (0, .methodref 15 18), (0, .nameAndType 5 19), (0, u "(ILjava/time/LocalDate;Ljava/time/LocalDate;)V"), (0, .methodref 13 21), (0, .nameAndType 5 22), (0, u "(Lcom/example/tranche/tranche/journal/Entry;Z)V"), (0, .class_ 24), (0, u "java/util/ArrayList"), (0, .methodref 23 3), (0, .methodref 23 27), (0, .nameAndType 28 29), (0, u "add"), (0, u "(Ljava/lang/Object;)Z"), (0, .class_ 31), (0, u "com/example/tranche/tranche/journal/Journal"), (0, .methodref 30 33), (0, .nameAndType 5 34), (0, u "(Ljava/lang/String;Ljava/util/List;Z)V"), (0, .methodref 30 36), (0, .nameAndType 37 38), (0, u "nextLine"), (0, u "()I"), (0, .class_ 40), (0, u "com/example/tranche/tranche/journal/JournalNextLinePinLaw"), (2, u "law"), (0, u "(IIII)Z")] 5

def k1m0 : Method := { name := "<init>", desc := "()V", sig := { parameters := [], returnType := none }, accessFlags := 1, code := none }
def k1c1 : Code := { maxStack := 7, maxLocals := 10, code := code, exceptionTable := #[], attributes := #[] }
def k1m1 : Method := { name := "law", desc := "(IIII)Z", sig := { parameters := [.int, .int, .int, .int], returnType := some .boolean }, accessFlags := 9, code := some k1c1 }
/-- com/example/tranche/tranche/journal/JournalNextLinePinLaw -/
def k1 : Class := { plain "com/example/tranche/tranche/journal/JournalNextLinePinLaw" (some 0) with
  accessFlags := 49
  interfaces := #[]
  cf := some (fileOf pool1 39 #[] #[{ accessFlags := 1, nameIndex := 5, descriptorIndex := 6, attributes := #[] }, { accessFlags := 9, nameIndex := 43, descriptorIndex := 44, attributes := #[] }] 49 2 #[] #[])
  fields := #[]
  methods := #[k1m0, k1m1]
  instanceTypes := #[]
  staticTypes := #[]
  resolved := Array.replicate 50 none
  statics := none }

def pool2 : Array CpInfo := pool [(1, .class_ 2), (0, u "java/io/Serializable"), (0, .class_ 4), (0, u "java/lang/Object")] 2

/-- java/io/Serializable -/
def k2 : Class := { plain "java/io/Serializable" (some 0) with
  accessFlags := 1537
  interfaces := #[]
  cf := some (fileOf pool2 1 #[] #[] 1537 3 #[] #[])
  fields := #[]
  methods := #[]
  instanceTypes := #[]
  staticTypes := #[]
  resolved := Array.replicate 7 none
  statics := none }

def pool3 : Array CpInfo := pool [(1, .class_ 2), (0, u "java/lang/Comparable"), (0, .class_ 4), (0, u "java/lang/Object")] 7

/-- java/lang/Comparable -/
def k3 : Class := { plain "java/lang/Comparable" (some 0) with
  accessFlags := 1537
  interfaces := #[]
  cf := some (fileOf pool3 1 #[] #[] 1537 3 #[] #[])
  fields := #[]
  methods := #[]
  instanceTypes := #[]
  staticTypes := #[]
  resolved := Array.replicate 12 none
  statics := none }

def pool4 : Array CpInfo := pool [(2, .class_ 4), (1, u "java/lang/CharSequence"), (42, .class_ 48), (0, u "java/lang/CharSequence$1CodePointIterator"), (10, .class_ 60), (0, u "java/lang/CharSequence$1CharIterator"), (5, .class_ 67), (0, u "java/lang/Object")] 63

/-- java/lang/CharSequence -/
def k4 : Class := { plain "java/lang/CharSequence" (some 0) with
  accessFlags := 1537
  interfaces := #[]
  cf := some (fileOf pool4 2 #[.nestMembers #[47, 59]] #[] 1537 66 #[] #[])
  fields := #[]
  methods := #[]
  instanceTypes := #[]
  staticTypes := #[]
  resolved := Array.replicate 131 none
  statics := none }

def pool5 : Array CpInfo := pool [(1, .class_ 2), (0, u "java/lang/constant/Constable"), (0, .class_ 4), (0, u "java/lang/Object")] 6

/-- java/lang/constant/Constable -/
def k5 : Class := { plain "java/lang/constant/Constable" (some 0) with
  accessFlags := 1537
  interfaces := #[]
  cf := some (fileOf pool5 1 #[] #[] 1537 3 #[] #[])
  fields := #[]
  methods := #[]
  instanceTypes := #[]
  staticTypes := #[]
  resolved := Array.replicate 11 none
  statics := none }

def pool6 : Array CpInfo := pool [(1, .class_ 2), (0, u "java/lang/constant/ConstantDesc"), (0, .class_ 4), (0, u "java/lang/Object")] 32

/-- java/lang/constant/ConstantDesc -/
def k6 : Class := { plain "java/lang/constant/ConstantDesc" (some 0) with
  accessFlags := 1537
  interfaces := #[]
  cf := some (fileOf pool6 1 #[] #[] 1537 3 #[] #[])
  fields := #[]
  methods := #[]
  instanceTypes := #[]
  staticTypes := #[]
  resolved := Array.replicate 37 none
  statics := none }

def pool7 : Array CpInfo := pool [(1, .methodref 2 3), (0, .class_ 4), (0, .nameAndType 5 6), (0, u "java/lang/Object"), (0, u "<init>"), (0, u "()V"), (2, .fieldref 10 11), (0, .class_ 12), (0, .nameAndType 13 14), (0, u "java/lang/String"), (0, u "value"), (0, u "[B"), (0, .fieldref 10 16), (0, .nameAndType 17 18), (0, u "coder"), (0, u "B"), (2, u "hash"), (0, u "I"), (2, u "hashIsZero"), (0, u "Z"), (11, .fieldref 10 39), (0, .nameAndType 40 26), (0, u "COMPACT_STRINGS"), (12, u "toBytes"), (53, .class_ 109), (1, u "java/lang/StringLatin1"), (99, .methodref 10 210), (0, .nameAndType 5 211), (0, u "([BB)V"), (157, u "(C)Z"), (205, .class_ 576), (0, u "java/lang/CharSequence"), (22, u "CASE_INSENSITIVE_ORDER"), (0, u "Ljava/util/Comparator;"), (181, u "valueOf"), (0, u "(C)Ljava/lang/String;"), (231, .methodref 107 1016), (0, .nameAndType 1017 369), (0, u "canEncode"), (0, .methodref 107 1019), (0, .nameAndType 53 1020), (0, u "(C)[B"), (80, u "serialPersistentFields"), (0, u "[Ljava/io/ObjectStreamField;"), (0, .class_ 1104), (0, u "java/lang/String$CaseInsensitiveComparator"), (1, .class_ 1107), (0, u "java/io/Serializable"), (0, .class_ 1109), (0, u "java/lang/Comparable"), (0, .class_ 1111), (0, u "java/lang/constant/Constable"), (0, .class_ 1113), (0, u "java/lang/constant/ConstantDesc"), (2, u "serialVersionUID"), (0, u "J"), (3, u "REPL"), (0, u "C"), (2, u "LATIN1"), (1, u "UTF16")] 323

def k7m0 : Method := { name := "<init>", desc := "()V", sig := { parameters := [], returnType := none }, accessFlags := 1, code := none }
def k7c1 : Code := { maxStack := 4, maxLocals := 1, code := jdk_42_method_139_code, exceptionTable := #[], attributes := #[] }
def k7m1 : Method := { name := "valueOf", desc := "(C)Ljava/lang/String;", sig := { parameters := [.char], returnType := some (.object "java/lang/String") }, accessFlags := 9, code := some k7c1 }
def k7c2 : Code := { maxStack := 2, maxLocals := 3, code := jdk_42_method_151_code, exceptionTable := #[], attributes := #[] }
def k7m2 : Method := { name := "<init>", desc := "([BB)V", sig := { parameters := [(.array .byte), .byte], returnType := none }, accessFlags := 0, code := some k7c2 }
/-- java/lang/String -/
def k7 : Class := { plain "java/lang/String" (some 0) with
  accessFlags := 49
  interfaces := #[2, 3, 4, 5, 6]
  cf := some (fileOf pool7 10 #[.nestMembers #[1103]] #[{ accessFlags := 1, nameIndex := 5, descriptorIndex := 6, attributes := #[] }, { accessFlags := 9, nameIndex := 782, descriptorIndex := 783, attributes := #[] }, { accessFlags := 0, nameIndex := 5, descriptorIndex := 211, attributes := #[] }] 49 2 #[1106, 1108, 575, 1110, 1112] #[{ accessFlags := 18, nameIndex := 13, descriptorIndex := 14, attributes := #[] }, { accessFlags := 18, nameIndex := 17, descriptorIndex := 18, attributes := #[] }, { accessFlags := 2, nameIndex := 21, descriptorIndex := 22, attributes := #[] }, { accessFlags := 2, nameIndex := 25, descriptorIndex := 26, attributes := #[] }, { accessFlags := 26, nameIndex := 1116, descriptorIndex := 1117, attributes := #[] }, { accessFlags := 24, nameIndex := 40, descriptorIndex := 26, attributes := #[] }, { accessFlags := 26, nameIndex := 1101, descriptorIndex := 1102, attributes := #[] }, { accessFlags := 26, nameIndex := 1121, descriptorIndex := 1122, attributes := #[] }, { accessFlags := 25, nameIndex := 599, descriptorIndex := 600, attributes := #[] }, { accessFlags := 24, nameIndex := 1125, descriptorIndex := 18, attributes := #[] }, { accessFlags := 24, nameIndex := 1127, descriptorIndex := 18, attributes := #[] }])
  fields := #[{ name := "value", type := (.array .byte), accessFlags := 18, slot := 0, constantValue := 0 }, { name := "coder", type := .byte, accessFlags := 18, slot := 1, constantValue := 0 }, { name := "hash", type := .int, accessFlags := 2, slot := 2, constantValue := 0 }, { name := "hashIsZero", type := .boolean, accessFlags := 2, slot := 3, constantValue := 0 }, { name := "serialVersionUID", type := .long, accessFlags := 26, slot := 0, constantValue := 0 }, { name := "COMPACT_STRINGS", type := .boolean, accessFlags := 24, slot := 1, constantValue := 0 }, { name := "serialPersistentFields", type := (.array (.object "java/io/ObjectStreamField")), accessFlags := 26, slot := 2, constantValue := 0 }, { name := "REPL", type := .char, accessFlags := 26, slot := 3, constantValue := 0 }, { name := "CASE_INSENSITIVE_ORDER", type := (.object "java/util/Comparator"), accessFlags := 25, slot := 4, constantValue := 0 }, { name := "LATIN1", type := .byte, accessFlags := 24, slot := 5, constantValue := 0 }, { name := "UTF16", type := .byte, accessFlags := 24, slot := 6, constantValue := 0 }]
  methods := #[k7m0, k7m1, k7m2]
  instanceTypes := #[(.array .byte), .byte, .int, .boolean]
  staticTypes := #[.long, .boolean, (.array (.object "java/io/ObjectStreamField")), .char, (.object "java/util/Comparator"), .byte, .byte]
  resolved := Array.replicate 1451 none
  statics := some 0 }

def pool8 : Array CpInfo := pool [(4, .class_ 6), (1, u "java/lang/Object"), (0, u "<init>"), (0, u "()V"), (5, .class_ 16), (1, u "java/lang/StringLatin1"), (73, u "canEncode"), (14, u "(C)Z"), (15, u "$assertionsDisabled"), (0, u "Z"), (98, .class_ 223), (1, u "java/lang/StringLatin1$LinesSpliterator"), (156, u "toBytes"), (1, u "(C)[B"), (7, .class_ 391), (0, u "java/lang/StringLatin1$CharsSpliterator")] 3

def k8m0 : Method := { name := "<init>", desc := "()V", sig := { parameters := [], returnType := none }, accessFlags := 0, code := none }
def k8c1 : Code := { maxStack := 2, maxLocals := 1, code := jdk_43_method_3_code, exceptionTable := #[], attributes := #[] }
def k8m1 : Method := { name := "canEncode", desc := "(C)Z", sig := { parameters := [.char], returnType := some .boolean }, accessFlags := 9, code := some k8c1 }
def k8c2 : Code := { maxStack := 4, maxLocals := 1, code := jdk_43_method_46_code, exceptionTable := #[], attributes := #[] }
def k8m2 : Method := { name := "toBytes", desc := "(C)[B", sig := { parameters := [.char], returnType := some (.array .byte) }, accessFlags := 9, code := some k8c2 }
/-- java/lang/StringLatin1 -/
def k8 : Class := { plain "java/lang/StringLatin1" (some 0) with
  accessFlags := 48
  interfaces := #[]
  cf := some (fileOf pool8 14 #[.nestMembers #[390, 221]] #[{ accessFlags := 0, nameIndex := 7, descriptorIndex := 8, attributes := #[] }, { accessFlags := 9, nameIndex := 90, descriptorIndex := 105, attributes := #[] }, { accessFlags := 9, nameIndex := 380, descriptorIndex := 382, attributes := #[] }] 48 4 #[] #[{ accessFlags := 4120, nameIndex := 121, descriptorIndex := 122, attributes := #[] }])
  fields := #[{ name := "$assertionsDisabled", type := .boolean, accessFlags := 4120, slot := 0, constantValue := 0 }]
  methods := #[k8m0, k8m1, k8m2]
  instanceTypes := #[]
  staticTypes := #[.boolean]
  resolved := Array.replicate 395 none
  statics := none }

def pool9 : Array CpInfo := pool [(1, .methodref 2 3), (0, .class_ 4), (0, .nameAndType 5 6), (0, u "java/lang/Object"), (0, u "<init>"), (0, u "()V"), (0, .class_ 8), (0, u "java/lang/Record")] 13

def k9c0 : Code := { maxStack := 1, maxLocals := 1, code := jdk_30_method_1_code, exceptionTable := #[], attributes := #[] }
def k9m0 : Method := { name := "<init>", desc := "()V", sig := { parameters := [], returnType := none }, accessFlags := 4, code := some k9c0 }
/-- java/lang/Record -/
def k9 : Class := { plain "java/lang/Record" (some 0) with
  accessFlags := 1057
  interfaces := #[]
  cf := some (fileOf pool9 7 #[] #[{ accessFlags := 4, nameIndex := 5, descriptorIndex := 6, attributes := #[] }] 1057 2 #[] #[])
  fields := #[]
  methods := #[k9m0]
  instanceTypes := #[]
  staticTypes := #[]
  resolved := Array.replicate 22 none
  statics := none }

def pool10 : Array CpInfo := pool [(2, .class_ 4), (1, u "com/example/tranche/tranche/journal/Event"), (12, .class_ 18), (0, u "java/lang/Object")] 21

/-- com/example/tranche/tranche/journal/Event -/
def k10 : Class := { plain "com/example/tranche/tranche/journal/Event" (some 0) with
  accessFlags := 1537
  interfaces := #[]
  cf := some (fileOf pool10 2 #[] #[] 1537 17 #[] #[])
  fields := #[]
  methods := #[]
  instanceTypes := #[]
  staticTypes := #[]
  resolved := Array.replicate 40 none
  statics := none }

def pool11 : Array CpInfo := pool [(1, .methodref 2 3), (0, .class_ 4), (0, .nameAndType 5 6), (0, u "java/lang/Record"), (0, u "<init>"), (0, u "()V"), (0, .fieldref 8 9), (0, .class_ 10), (0, .nameAndType 11 12), (0, u "com/example/tranche/tranche/journal/DefaultRateChange"), (0, u "entry"), (0, u "Lcom/example/tranche/tranche/journal/Entry;"), (0, .fieldref 8 14), (0, .nameAndType 15 16), (0, u "applies"), (0, u "Z"), (12, .class_ 30), (0, u "com/example/tranche/tranche/journal/Event"), (0, u "(Lcom/example/tranche/tranche/journal/Entry;Z)V")] 29

def k11c0 : Code := { maxStack := 2, maxLocals := 3, code := prog_27_method_1_code, exceptionTable := #[], attributes := #[] }
def k11m0 : Method := { name := "<init>", desc := "(Lcom/example/tranche/tranche/journal/Entry;Z)V", sig := { parameters := [(.object "com/example/tranche/tranche/journal/Entry"), .boolean], returnType := none }, accessFlags := 1, code := some k11c0 }
/-- com/example/tranche/tranche/journal/DefaultRateChange -/
def k11 : Class := { plain "com/example/tranche/tranche/journal/DefaultRateChange" (some 9) with
  accessFlags := 49
  interfaces := #[10]
  cf := some (fileOf pool11 8 #[] #[{ accessFlags := 1, nameIndex := 5, descriptorIndex := 31, attributes := #[] }] 49 2 #[29] #[{ accessFlags := 18, nameIndex := 11, descriptorIndex := 12, attributes := #[] }, { accessFlags := 18, nameIndex := 15, descriptorIndex := 16, attributes := #[] }])
  fields := #[{ name := "entry", type := (.object "com/example/tranche/tranche/journal/Entry"), accessFlags := 18, slot := 0, constantValue := 0 }, { name := "applies", type := .boolean, accessFlags := 18, slot := 1, constantValue := 0 }]
  methods := #[k11m0]
  instanceTypes := #[(.object "com/example/tranche/tranche/journal/Entry"), .boolean]
  staticTypes := #[]
  resolved := Array.replicate 61 none
  statics := none }

def pool12 : Array CpInfo := pool [(1, .methodref 2 3), (0, .class_ 4), (0, .nameAndType 5 6), (0, u "java/lang/Record"), (0, u "<init>"), (0, u "()V"), (0, .fieldref 8 9), (0, .class_ 10), (0, .nameAndType 11 12), (0, u "com/example/tranche/tranche/journal/Entry"), (0, u "line"), (0, u "I"), (0, .fieldref 8 14), (0, .nameAndType 15 16), (0, u "date"), (0, u "Ljava/time/LocalDate;"), (0, .fieldref 8 18), (0, .nameAndType 19 16), (0, u "recorded"), (12, u "(ILjava/time/LocalDate;Ljava/time/LocalDate;)V")] 33

def k12c0 : Code := { maxStack := 2, maxLocals := 4, code := prog_28_method_1_code, exceptionTable := #[], attributes := #[] }
def k12m0 : Method := { name := "<init>", desc := "(ILjava/time/LocalDate;Ljava/time/LocalDate;)V", sig := { parameters := [.int, (.object "java/time/LocalDate"), (.object "java/time/LocalDate")], returnType := none }, accessFlags := 1, code := some k12c0 }
/-- com/example/tranche/tranche/journal/Entry -/
def k12 : Class := { plain "com/example/tranche/tranche/journal/Entry" (some 9) with
  accessFlags := 49
  interfaces := #[]
  cf := some (fileOf pool12 8 #[] #[{ accessFlags := 1, nameIndex := 5, descriptorIndex := 32, attributes := #[] }] 49 2 #[] #[{ accessFlags := 18, nameIndex := 11, descriptorIndex := 12, attributes := #[] }, { accessFlags := 18, nameIndex := 15, descriptorIndex := 16, attributes := #[] }, { accessFlags := 18, nameIndex := 19, descriptorIndex := 16, attributes := #[] }])
  fields := #[{ name := "line", type := .int, accessFlags := 18, slot := 0, constantValue := 0 }, { name := "date", type := (.object "java/time/LocalDate"), accessFlags := 18, slot := 1, constantValue := 0 }, { name := "recorded", type := (.object "java/time/LocalDate"), accessFlags := 18, slot := 2, constantValue := 0 }]
  methods := #[k12m0]
  instanceTypes := #[.int, (.object "java/time/LocalDate"), (.object "java/time/LocalDate")]
  staticTypes := #[]
  resolved := Array.replicate 66 none
  statics := none }

def pool13 : Array CpInfo := pool [(8, .class_ 10), (1, u "java/lang/Iterable"), (24, .class_ 36), (0, u "java/lang/Object")] 25

/-- java/lang/Iterable -/
def k13 : Class := { plain "java/lang/Iterable" (some 0) with
  accessFlags := 1537
  interfaces := #[]
  cf := some (fileOf pool13 8 #[] #[] 1537 35 #[] #[])
  fields := #[]
  methods := #[]
  instanceTypes := #[]
  staticTypes := #[]
  resolved := Array.replicate 62 none
  statics := none }

def pool14 : Array CpInfo := pool [(10, .class_ 12), (1, u "java/util/Collection"), (0, u "toArray"), (16, u "()Z"), (29, .class_ 61), (0, u "java/lang/Object"), (0, .class_ 63), (0, u "java/lang/Iterable"), (2, u "isEmpty"), (3, u "()[Ljava/lang/Object;")] 44

def k14m0 : Method := { name := "isEmpty", desc := "()Z", sig := { parameters := [], returnType := some .boolean }, accessFlags := 1025, code := none }
def k14m1 : Method := { name := "toArray", desc := "()[Ljava/lang/Object;", sig := { parameters := [], returnType := some (.array (.object "java/lang/Object")) }, accessFlags := 1025, code := none }
/-- java/util/Collection -/
def k14 : Class := { plain "java/util/Collection" (some 0) with
  accessFlags := 1537
  interfaces := #[13]
  cf := some (fileOf pool14 10 #[] #[{ accessFlags := 1025, nameIndex := 66, descriptorIndex := 30, attributes := #[] }, { accessFlags := 1025, nameIndex := 13, descriptorIndex := 70, attributes := #[] }] 1537 60 #[62] #[])
  fields := #[]
  methods := #[k14m0, k14m1]
  instanceTypes := #[]
  staticTypes := #[]
  resolved := Array.replicate 115 none
  statics := none }

def pool15 : Array CpInfo := pool [(1, .methodref 2 3), (0, .class_ 4), (0, .nameAndType 5 6), (0, u "java/lang/Object"), (0, u "<init>"), (0, u "()V"), (1, .class_ 10), (1, u "java/util/AbstractCollection"), (66, .class_ 78), (0, u "java/util/Collection")] 81

def k15c0 : Code := { maxStack := 1, maxLocals := 1, code := jdk_22_method_1_code, exceptionTable := #[], attributes := #[] }
def k15m0 : Method := { name := "<init>", desc := "()V", sig := { parameters := [], returnType := none }, accessFlags := 4, code := some k15c0 }
/-- java/util/AbstractCollection -/
def k15 : Class := { plain "java/util/AbstractCollection" (some 0) with
  accessFlags := 1057
  interfaces := #[14]
  cf := some (fileOf pool15 8 #[] #[{ accessFlags := 4, nameIndex := 5, descriptorIndex := 6, attributes := #[] }] 1057 2 #[77] #[])
  fields := #[]
  methods := #[k15m0]
  instanceTypes := #[]
  staticTypes := #[]
  resolved := Array.replicate 160 none
  statics := none }

def pool16 : Array CpInfo := pool [(8, .class_ 10), (1, u "java/util/SequencedCollection"), (15, .class_ 27), (0, u "java/lang/Object"), (0, .class_ 29), (0, u "java/util/Collection")] 27

/-- java/util/SequencedCollection -/
def k16 : Class := { plain "java/util/SequencedCollection" (some 0) with
  accessFlags := 1537
  interfaces := #[14]
  cf := some (fileOf pool16 8 #[] #[] 1537 26 #[28] #[])
  fields := #[]
  methods := #[]
  instanceTypes := #[]
  staticTypes := #[]
  resolved := Array.replicate 57 none
  statics := none }

def pool17 : Array CpInfo := pool [(8, .class_ 10), (1, u "java/util/List"), (20, u "(Ljava/lang/Object;)V"), (16, u "<init>"), (30, u "size"), (0, u "()I"), (7, u "of"), (1, .fieldref 91 92), (0, .class_ 93), (0, .nameAndType 94 95), (0, u "java/util/ImmutableCollections"), (0, u "EMPTY_LIST"), (0, u "Ljava/util/ImmutableCollections$ListN;"), (0, .class_ 97), (0, u "java/util/ImmutableCollections$List12"), (0, .methodref 96 99), (0, .nameAndType 48 31), (0, .methodref 96 101), (0, .nameAndType 48 102), (0, u "(Ljava/lang/Object;Ljava/lang/Object;)V"), (0, .class_ 104), (0, u "java/lang/Object"), (3, u "([Ljava/lang/Object;)Ljava/util/List;"), (0, .methodref 91 110), (0, .nameAndType 111 108), (0, u "listFromArray"), (0, .methodref 91 113), (0, .nameAndType 114 115), (0, u "listCopy"), (0, u "(Ljava/util/Collection;)Ljava/util/List;"), (3, u "()Ljava/util/List;"), (0, .class_ 121), (0, u "java/util/SequencedCollection"), (112, u "copyOf")] 16

def k17m0 : Method := { name := "size", desc := "()I", sig := { parameters := [], returnType := some .int }, accessFlags := 1025, code := none }
def k17c1 : Code := { maxStack := 1, maxLocals := 0, code := jdk_40_method_36_code, exceptionTable := #[], attributes := #[] }
def k17m1 : Method := { name := "of", desc := "()Ljava/util/List;", sig := { parameters := [], returnType := some (.object "java/util/List") }, accessFlags := 9, code := some k17c1 }
def k17c2 : Code := { maxStack := 5, maxLocals := 2, code := jdk_40_method_47_code, exceptionTable := #[], attributes := #[] }
def k17m2 : Method := { name := "of", desc := "([Ljava/lang/Object;)Ljava/util/List;", sig := { parameters := [(.array (.object "java/lang/Object"))], returnType := some (.object "java/util/List") }, accessFlags := 137, code := some k17c2 }
def k17c3 : Code := { maxStack := 1, maxLocals := 1, code := jdk_40_method_48_code, exceptionTable := #[], attributes := #[] }
def k17m3 : Method := { name := "copyOf", desc := "(Ljava/util/Collection;)Ljava/util/List;", sig := { parameters := [(.object "java/util/Collection")], returnType := some (.object "java/util/List") }, accessFlags := 9, code := some k17c3 }
/-- java/util/List -/
def k17 : Class := { plain "java/util/List" (some 0) with
  accessFlags := 1537
  interfaces := #[16]
  cf := some (fileOf pool17 8 #[] #[{ accessFlags := 1025, nameIndex := 79, descriptorIndex := 80, attributes := #[] }, { accessFlags := 9, nameIndex := 88, descriptorIndex := 119, attributes := #[] }, { accessFlags := 137, nameIndex := 88, descriptorIndex := 108, attributes := #[] }, { accessFlags := 9, nameIndex := 234, descriptorIndex := 115, attributes := #[] }] 1537 103 #[120] #[])
  fields := #[]
  methods := #[k17m0, k17m1, k17m2, k17m3]
  instanceTypes := #[]
  staticTypes := #[]
  resolved := Array.replicate 251 none
  statics := none }

def pool18 : Array CpInfo := pool [(1, .methodref 2 3), (0, .class_ 4), (0, .nameAndType 5 6), (0, u "java/util/AbstractCollection"), (0, u "<init>"), (0, u "()V"), (0, .fieldref 8 9), (0, .class_ 10), (0, .nameAndType 11 12), (0, u "java/util/AbstractList"), (0, u "modCount"), (0, u "I"), (64, .class_ 78), (0, u "java/util/AbstractList$Itr"), (3, .class_ 83), (0, u "java/util/AbstractList$ListItr"), (9, .class_ 94), (0, u "java/util/AbstractList$RandomAccessSubList"), (3, .class_ 99), (0, u "java/util/AbstractList$SubList"), (33, .class_ 134), (0, u "java/util/List"), (73, .class_ 209), (0, u "java/util/AbstractList$SubList$1"), (0, .class_ 211), (0, u "java/util/AbstractList$RandomAccessSpliterator")] 6

def k18c0 : Code := { maxStack := 2, maxLocals := 1, code := jdk_39_method_1_code, exceptionTable := #[], attributes := #[] }
def k18m0 : Method := { name := "<init>", desc := "()V", sig := { parameters := [], returnType := none }, accessFlags := 4, code := some k18c0 }
/-- java/util/AbstractList -/
def k18 : Class := { plain "java/util/AbstractList" (some 15) with
  accessFlags := 1057
  interfaces := #[17]
  cf := some (fileOf pool18 8 #[.nestMembers #[93, 98, 208, 210, 82, 77]] #[{ accessFlags := 4, nameIndex := 5, descriptorIndex := 6, attributes := #[] }] 1057 2 #[133] #[{ accessFlags := 132, nameIndex := 11, descriptorIndex := 12, attributes := #[] }])
  fields := #[{ name := "modCount", type := .int, accessFlags := 132, slot := 0, constantValue := 0 }]
  methods := #[k18m0]
  instanceTypes := #[.int]
  staticTypes := #[]
  resolved := Array.replicate 218 none
  statics := none }

def pool19 : Array CpInfo := pool [(1, .class_ 2), (0, u "java/util/RandomAccess"), (0, .class_ 4), (0, u "java/lang/Object")] 2

/-- java/util/RandomAccess -/
def k19 : Class := { plain "java/util/RandomAccess" (some 0) with
  accessFlags := 1537
  interfaces := #[]
  cf := some (fileOf pool19 1 #[] #[] 1537 3 #[] #[])
  fields := #[]
  methods := #[]
  instanceTypes := #[]
  staticTypes := #[]
  resolved := Array.replicate 7 none
  statics := none }

def pool20 : Array CpInfo := pool [(1, .class_ 2), (0, u "java/lang/Cloneable"), (0, .class_ 4), (0, u "java/lang/Object")] 2

/-- java/lang/Cloneable -/
def k20 : Class := { plain "java/lang/Cloneable" (some 0) with
  accessFlags := 1537
  interfaces := #[]
  cf := some (fileOf pool20 1 #[] #[] 1537 3 #[] #[])
  fields := #[]
  methods := #[]
  instanceTypes := #[]
  staticTypes := #[]
  resolved := Array.replicate 7 none
  statics := none }

def pool21 : Array CpInfo := pool [(1, .methodref 2 3), (0, .class_ 4), (0, .nameAndType 5 6), (0, u "java/util/AbstractList"), (0, u "<init>"), (0, u "()V"), (0, .class_ 8), (0, u "java/lang/Object"), (0, .fieldref 10 11), (0, .class_ 12), (0, .nameAndType 13 14), (0, u "java/util/ArrayList"), (0, u "elementData"), (0, u "[Ljava/lang/Object;"), (2, u "EMPTY_ELEMENTDATA"), (21, .fieldref 10 40), (0, .nameAndType 41 14), (0, u "DEFAULTCAPACITY_EMPTY_ELEMENTDATA"), (4, u "toArray"), (0, u "()[Ljava/lang/Object;"), (0, .fieldref 10 49), (0, .nameAndType 50 51), (0, u "size"), (0, u "I"), (6, .class_ 60), (1, u "java/util/Arrays"), (0, u "copyOf"), (1, .fieldref 10 64), (0, .nameAndType 65 51), (0, u "modCount"), (0, .methodref 58 67), (0, .nameAndType 61 68), (0, u "([Ljava/lang/Object;I)[Ljava/lang/Object;"), (0, .methodref 10 70), (0, .nameAndType 71 72), (0, u "grow"), (0, u "(I)[Ljava/lang/Object;"), (6, .methodref 80 81), (0, .class_ 82), (0, .nameAndType 83 84), (0, u "java/lang/Math"), (0, u "max"), (0, u "(II)I"), (11, u "(Ljava/lang/Object;)Z"), (32, .methodref 10 130), (0, .nameAndType 71 47), (0, .methodref 10 132), (0, .nameAndType 133 134), (0, u "add"), (0, u "(Ljava/lang/Object;[Ljava/lang/Object;I)V"), (13, .class_ 149), (0, u "java/util/List"), (23, u "()Z"), (88, .class_ 263), (0, u "java/util/ArrayList$ListItr"), (3, .class_ 268), (0, u "java/util/ArrayList$Itr"), (7, .class_ 277), (0, u "java/util/ArrayList$SubList"), (12, .class_ 291), (0, u "java/util/ArrayList$ArrayListSpliterator"), (37, .class_ 330), (0, u "java/util/RandomAccess"), (0, .class_ 332), (0, u "java/lang/Cloneable"), (0, .class_ 334), (0, u "java/io/Serializable"), (0, u "serialVersionUID"), (0, u "J"), (3, u "DEFAULT_CAPACITY"), (22, u "isEmpty"), (136, .class_ 501), (0, u "java/util/ArrayList$SubList$2"), (0, .class_ 503), (0, u "java/util/ArrayList$SubList$1")] 5

def k21c0 : Code := { maxStack := 2, maxLocals := 1, code := jdk_38_method_2_code, exceptionTable := #[], attributes := #[] }
def k21m0 : Method := { name := "<init>", desc := "()V", sig := { parameters := [], returnType := none }, accessFlags := 1, code := some k21c0 }
def k21c1 : Code := { maxStack := 4, maxLocals := 4, code := jdk_38_method_6_code, exceptionTable := #[], attributes := #[] }
def k21m1 : Method := { name := "grow", desc := "(I)[Ljava/lang/Object;", sig := { parameters := [.int], returnType := some (.array (.object "java/lang/Object")) }, accessFlags := 2, code := some k21c1 }
def k21c2 : Code := { maxStack := 3, maxLocals := 1, code := jdk_38_method_7_code, exceptionTable := #[], attributes := #[] }
def k21m2 : Method := { name := "grow", desc := "()[Ljava/lang/Object;", sig := { parameters := [], returnType := some (.array (.object "java/lang/Object")) }, accessFlags := 2, code := some k21c2 }
def k21c3 : Code := { maxStack := 1, maxLocals := 1, code := jdk_38_method_9_code, exceptionTable := #[], attributes := #[] }
def k21m3 : Method := { name := "isEmpty", desc := "()Z", sig := { parameters := [], returnType := some .boolean }, accessFlags := 1, code := some k21c3 }
def k21c4 : Code := { maxStack := 2, maxLocals := 1, code := jdk_38_method_16_code, exceptionTable := #[], attributes := #[] }
def k21m4 : Method := { name := "toArray", desc := "()[Ljava/lang/Object;", sig := { parameters := [], returnType := some (.array (.object "java/lang/Object")) }, accessFlags := 1, code := some k21c4 }
def k21c5 : Code := { maxStack := 3, maxLocals := 4, code := jdk_38_method_24_code, exceptionTable := #[], attributes := #[] }
def k21m5 : Method := { name := "add", desc := "(Ljava/lang/Object;[Ljava/lang/Object;I)V", sig := { parameters := [(.object "java/lang/Object"), (.array (.object "java/lang/Object")), .int], returnType := none }, accessFlags := 2, code := some k21c5 }
def k21c6 : Code := { maxStack := 4, maxLocals := 2, code := jdk_38_method_25_code, exceptionTable := #[], attributes := #[] }
def k21m6 : Method := { name := "add", desc := "(Ljava/lang/Object;)Z", sig := { parameters := [(.object "java/lang/Object")], returnType := some .boolean }, accessFlags := 1, code := some k21c6 }
/-- java/util/ArrayList -/
def k21 : Class := { plain "java/util/ArrayList" (some 18) with
  accessFlags := 33
  interfaces := #[17, 19, 20, 2]
  cf := some (fileOf pool21 10 #[.nestMembers #[290, 276, 500, 502, 262, 267]] #[{ accessFlags := 1, nameIndex := 5, descriptorIndex := 6, attributes := #[] }, { accessFlags := 2, nameIndex := 71, descriptorIndex := 72, attributes := #[] }, { accessFlags := 2, nameIndex := 71, descriptorIndex := 47, attributes := #[] }, { accessFlags := 1, nameIndex := 363, descriptorIndex := 173, attributes := #[] }, { accessFlags := 1, nameIndex := 46, descriptorIndex := 47, attributes := #[] }, { accessFlags := 2, nameIndex := 133, descriptorIndex := 134, attributes := #[] }, { accessFlags := 1, nameIndex := 133, descriptorIndex := 96, attributes := #[] }] 33 2 #[148, 329, 331, 333] #[{ accessFlags := 26, nameIndex := 335, descriptorIndex := 336, attributes := #[] }, { accessFlags := 26, nameIndex := 340, descriptorIndex := 51, attributes := #[] }, { accessFlags := 26, nameIndex := 17, descriptorIndex := 14, attributes := #[] }, { accessFlags := 26, nameIndex := 41, descriptorIndex := 14, attributes := #[] }, { accessFlags := 128, nameIndex := 13, descriptorIndex := 14, attributes := #[] }, { accessFlags := 2, nameIndex := 50, descriptorIndex := 51, attributes := #[] }])
  fields := #[{ name := "serialVersionUID", type := .long, accessFlags := 26, slot := 0, constantValue := 0 }, { name := "DEFAULT_CAPACITY", type := .int, accessFlags := 26, slot := 1, constantValue := 0 }, { name := "EMPTY_ELEMENTDATA", type := (.array (.object "java/lang/Object")), accessFlags := 26, slot := 2, constantValue := 0 }, { name := "DEFAULTCAPACITY_EMPTY_ELEMENTDATA", type := (.array (.object "java/lang/Object")), accessFlags := 26, slot := 3, constantValue := 0 }, { name := "elementData", type := (.array (.object "java/lang/Object")), accessFlags := 128, slot := 1, constantValue := 0 }, { name := "size", type := .int, accessFlags := 2, slot := 2, constantValue := 0 }]
  methods := #[k21m0, k21m1, k21m2, k21m3, k21m4, k21m5, k21m6]
  instanceTypes := #[.int, (.array (.object "java/lang/Object")), .int]
  staticTypes := #[.long, .int, (.array (.object "java/lang/Object")), (.array (.object "java/lang/Object"))]
  resolved := Array.replicate 509 none
  statics := some 1 }

def pool22 : Array CpInfo := pool [(1, .methodref 2 3), (0, .class_ 4), (0, .nameAndType 5 6), (0, u "java/lang/Record"), (0, u "<init>"), (0, u "()V"), (0, .interfaceMethodref 8 9), (0, .class_ 10), (0, .nameAndType 11 12), (0, u "java/util/List"), (0, u "copyOf"), (0, u "(Ljava/util/Collection;)Ljava/util/List;"), (0, .fieldref 14 15), (0, .class_ 16), (0, .nameAndType 17 18), (0, u "com/example/tranche/tranche/journal/Journal"), (0, u "source"), (0, u "Ljava/lang/String;"), (0, .fieldref 14 20), (0, .nameAndType 21 22), (0, u "events"), (0, u "Ljava/util/List;"), (0, .fieldref 14 24), (0, .nameAndType 25 26), (0, u "incomplete"), (0, u "Z"), (0, .interfaceMethodref 8 28), (0, .nameAndType 29 30), (0, u "size"), (0, u "()I"), (41, u "(Ljava/lang/String;Ljava/util/List;Z)V"), (26, u "nextLine")] 29

def k22c0 : Code := { maxStack := 2, maxLocals := 4, code := prog_35_method_1_code, exceptionTable := #[], attributes := #[] }
def k22m0 : Method := { name := "<init>", desc := "(Ljava/lang/String;Ljava/util/List;Z)V", sig := { parameters := [(.object "java/lang/String"), (.object "java/util/List"), .boolean], returnType := none }, accessFlags := 1, code := some k22c0 }
def k22c1 : Code := { maxStack := 2, maxLocals := 1, code := prog_35_method_2_code, exceptionTable := #[], attributes := #[] }
def k22m1 : Method := { name := "nextLine", desc := "()I", sig := { parameters := [], returnType := some .int }, accessFlags := 1, code := some k22c1 }
/-- com/example/tranche/tranche/journal/Journal -/
def k22 : Class := { plain "com/example/tranche/tranche/journal/Journal" (some 9) with
  accessFlags := 49
  interfaces := #[]
  cf := some (fileOf pool22 14 #[] #[{ accessFlags := 1, nameIndex := 5, descriptorIndex := 72, attributes := #[] }, { accessFlags := 1, nameIndex := 99, descriptorIndex := 30, attributes := #[] }] 49 2 #[] #[{ accessFlags := 18, nameIndex := 17, descriptorIndex := 18, attributes := #[] }, { accessFlags := 18, nameIndex := 21, descriptorIndex := 22, attributes := #[] }, { accessFlags := 18, nameIndex := 25, descriptorIndex := 26, attributes := #[] }])
  fields := #[{ name := "source", type := (.object "java/lang/String"), accessFlags := 18, slot := 0, constantValue := 0 }, { name := "events", type := (.object "java/util/List"), accessFlags := 18, slot := 1, constantValue := 0 }, { name := "incomplete", type := .boolean, accessFlags := 18, slot := 2, constantValue := 0 }]
  methods := #[k22m0, k22m1]
  instanceTypes := #[(.object "java/lang/String"), (.object "java/util/List"), .boolean]
  staticTypes := #[]
  resolved := Array.replicate 129 none
  statics := none }

def pool23 : Array CpInfo := pool [(2, .class_ 4), (1, u "java/lang/Object"), (0, u "<init>"), (0, u "()V"), (3, .class_ 11), (0, u "java/util/ImmutableCollections$List12"), (0, .class_ 13), (0, u "java/util/ImmutableCollections$ListN"), (3, u "Z"), (0, .class_ 19), (0, u "java/util/List"), (0, .interfaceMethodref 21 22), (0, .class_ 23), (0, .nameAndType 24 25), (0, u "java/util/Collection"), (0, u "isEmpty"), (0, u "()Z"), (0, .interfaceMethodref 18 27), (0, .nameAndType 28 29), (0, u "of"), (0, u "()Ljava/util/List;"), (0, .interfaceMethodref 21 31), (0, .nameAndType 32 33), (0, u "toArray"), (0, u "()[Ljava/lang/Object;"), (0, .interfaceMethodref 18 35), (0, .nameAndType 28 36), (0, u "([Ljava/lang/Object;)Ljava/util/List;"), (0, .methodref 38 39), (0, .class_ 40), (0, .nameAndType 41 42), (0, u "java/util/Objects"), (0, u "requireNonNull"), (0, u "(Ljava/lang/Object;)Ljava/lang/Object;"), (0, .methodref 12 44), (0, .nameAndType 5 45), (0, u "([Ljava/lang/Object;Z)V"), (1, .class_ 49), (1, u "java/util/ImmutableCollections"), (0, u "$assertionsDisabled"), (5, u "[Ljava/lang/Object;"), (5, u "EMPTY_LIST"), (0, u "Ljava/util/ImmutableCollections$ListN;"), (8, u "EMPTY_LIST_NULLS"), (22, u "SALT32L"), (0, u "J"), (2, u "REVERSE"), (6, u "archivedObjects"), (2, u "EMPTY"), (0, u "Ljava/lang/Object;"), (0, .class_ 112), (0, u "java/util/ImmutableCollections$SetN"), (5, u "EMPTY_SET"), (0, u "Ljava/util/ImmutableCollections$SetN;"), (0, .class_ 121), (0, u "java/util/ImmutableCollections$MapN"), (3, u "EMPTY_MAP"), (0, u "Ljava/util/ImmutableCollections$MapN;"), (4, u "EXPAND_FACTOR"), (0, u "I"), (9, u "listCopy"), (0, u "(Ljava/util/Collection;)Ljava/util/List;"), (7, u "listFromArray"), (17, .class_ 170), (0, u "java/util/ImmutableCollections$MapN$MapNIterator"), (0, .class_ 172), (0, u "java/util/ImmutableCollections$MapN$1"), (0, .class_ 174), (0, u "java/util/ImmutableCollections$Map1"), (0, .class_ 176), (0, u "java/util/ImmutableCollections$AbstractImmutableMap"), (0, .class_ 178), (0, u "java/util/ImmutableCollections$SetN$SetNIterator"), (0, .class_ 180), (0, u "java/util/ImmutableCollections$Set12"), (0, .class_ 182), (0, u "java/util/ImmutableCollections$Set12$1"), (0, .class_ 184), (0, u "java/util/ImmutableCollections$AbstractImmutableSet"), (0, .class_ 186), (0, u "java/util/ImmutableCollections$SubList"), (0, .class_ 188), (0, u "java/util/ImmutableCollections$ListItr"), (0, .class_ 190), (0, u "java/util/ImmutableCollections$AbstractImmutableList"), (0, .class_ 192), (0, u "java/util/ImmutableCollections$AbstractImmutableCollection"), (0, .class_ 194), (0, u "java/util/ImmutableCollections$Access"), (0, .class_ 196), (0, u "java/util/ImmutableCollections$Access$1")] 16

def k23m0 : Method := { name := "<init>", desc := "()V", sig := { parameters := [], returnType := none }, accessFlags := 2, code := none }
def k23c1 : Code := { maxStack := 1, maxLocals := 2, code := jdk_56_method_3_code, exceptionTable := #[], attributes := #[] }
def k23m1 : Method := { name := "listCopy", desc := "(Ljava/util/Collection;)Ljava/util/List;", sig := { parameters := [(.object "java/util/Collection")], returnType := some (.object "java/util/List") }, accessFlags := 8, code := some k23c1 }
def k23c2 : Code := { maxStack := 4, maxLocals := 3, code := jdk_56_method_4_code, exceptionTable := #[], attributes := #[] }
def k23m2 : Method := { name := "listFromArray", desc := "([Ljava/lang/Object;)Ljava/util/List;", sig := { parameters := [(.array (.object "java/lang/Object"))], returnType := some (.object "java/util/List") }, accessFlags := 136, code := some k23c2 }
/-- java/util/ImmutableCollections -/
def k23 : Class := { plain "java/util/ImmutableCollections" (some 0) with
  accessFlags := 32
  interfaces := #[]
  cf := some (fileOf pool23 47 #[.nestMembers #[120, 169, 171, 173, 175, 111, 177, 179, 181, 183, 12, 10, 185, 187, 189, 191, 193, 195]] #[{ accessFlags := 2, nameIndex := 5, descriptorIndex := 6, attributes := #[] }, { accessFlags := 8, nameIndex := 142, descriptorIndex := 143, attributes := #[] }, { accessFlags := 136, nameIndex := 151, descriptorIndex := 36, attributes := #[] }] 32 2 #[] #[{ accessFlags := 26, nameIndex := 95, descriptorIndex := 96, attributes := #[] }, { accessFlags := 26, nameIndex := 99, descriptorIndex := 17, attributes := #[] }, { accessFlags := 10, nameIndex := 106, descriptorIndex := 56, attributes := #[] }, { accessFlags := 26, nameIndex := 109, descriptorIndex := 110, attributes := #[] }, { accessFlags := 24, nameIndex := 62, descriptorIndex := 63, attributes := #[] }, { accessFlags := 24, nameIndex := 72, descriptorIndex := 63, attributes := #[] }, { accessFlags := 24, nameIndex := 118, descriptorIndex := 119, attributes := #[] }, { accessFlags := 24, nameIndex := 125, descriptorIndex := 126, attributes := #[] }, { accessFlags := 24, nameIndex := 131, descriptorIndex := 132, attributes := #[] }, { accessFlags := 4120, nameIndex := 50, descriptorIndex := 17, attributes := #[] }])
  fields := #[{ name := "SALT32L", type := .long, accessFlags := 26, slot := 0, constantValue := 0 }, { name := "REVERSE", type := .boolean, accessFlags := 26, slot := 1, constantValue := 0 }, { name := "archivedObjects", type := (.array (.object "java/lang/Object")), accessFlags := 10, slot := 2, constantValue := 0 }, { name := "EMPTY", type := (.object "java/lang/Object"), accessFlags := 26, slot := 3, constantValue := 0 }, { name := "EMPTY_LIST", type := (.object "java/util/ImmutableCollections$ListN"), accessFlags := 24, slot := 4, constantValue := 0 }, { name := "EMPTY_LIST_NULLS", type := (.object "java/util/ImmutableCollections$ListN"), accessFlags := 24, slot := 5, constantValue := 0 }, { name := "EMPTY_SET", type := (.object "java/util/ImmutableCollections$SetN"), accessFlags := 24, slot := 6, constantValue := 0 }, { name := "EMPTY_MAP", type := (.object "java/util/ImmutableCollections$MapN"), accessFlags := 24, slot := 7, constantValue := 0 }, { name := "EXPAND_FACTOR", type := .int, accessFlags := 24, slot := 8, constantValue := 0 }, { name := "$assertionsDisabled", type := .boolean, accessFlags := 4120, slot := 9, constantValue := 0 }]
  methods := #[k23m0, k23m1, k23m2]
  instanceTypes := #[]
  staticTypes := #[.long, .boolean, (.array (.object "java/lang/Object")), (.object "java/lang/Object"), (.object "java/util/ImmutableCollections$ListN"), (.object "java/util/ImmutableCollections$ListN"), (.object "java/util/ImmutableCollections$SetN"), (.object "java/util/ImmutableCollections$MapN"), .int, .boolean]
  resolved := Array.replicate 213 none
  statics := some 2 }

def pool24 : Array CpInfo := pool [(1, .methodref 2 3), (0, .class_ 4), (0, .nameAndType 5 6), (0, u "java/util/AbstractCollection"), (0, u "<init>"), (0, u "()V"), (1, .class_ 10), (1, u "java/util/ImmutableCollections"), (2, .class_ 14), (0, u "java/util/ImmutableCollections$AbstractImmutableCollection")] 41

def k24c0 : Code := { maxStack := 1, maxLocals := 1, code := jdk_47_method_1_code, exceptionTable := #[], attributes := #[] }
def k24m0 : Method := { name := "<init>", desc := "()V", sig := { parameters := [], returnType := none }, accessFlags := 0, code := some k24c0 }
/-- java/util/ImmutableCollections$AbstractImmutableCollection -/
def k24 : Class := { plain "java/util/ImmutableCollections$AbstractImmutableCollection" (some 15) with
  accessFlags := 1056
  interfaces := #[]
  cf := some (fileOf pool24 13 #[.nestHost 8] #[{ accessFlags := 0, nameIndex := 5, descriptorIndex := 6, attributes := #[] }] 1056 2 #[] #[])
  fields := #[]
  methods := #[k24m0]
  instanceTypes := #[]
  staticTypes := #[]
  resolved := Array.replicate 56 none
  statics := none }

def pool25 : Array CpInfo := pool [(1, .methodref 2 3), (0, .class_ 4), (0, .nameAndType 5 6), (0, u "java/util/ImmutableCollections$AbstractImmutableCollection"), (0, u "<init>"), (0, u "()V"), (1, .class_ 10), (1, u "java/util/ImmutableCollections"), (3, .class_ 16), (1, u "java/util/ImmutableCollections$AbstractImmutableList"), (60, .class_ 78), (0, u "java/util/List"), (45, .class_ 125), (0, u "java/util/RandomAccess")] 70

def k25c0 : Code := { maxStack := 1, maxLocals := 1, code := jdk_46_method_1_code, exceptionTable := #[], attributes := #[] }
def k25m0 : Method := { name := "<init>", desc := "()V", sig := { parameters := [], returnType := none }, accessFlags := 0, code := some k25c0 }
/-- java/util/ImmutableCollections$AbstractImmutableList -/
def k25 : Class := { plain "java/util/ImmutableCollections$AbstractImmutableList" (some 24) with
  accessFlags := 1056
  interfaces := #[17, 19]
  cf := some (fileOf pool25 14 #[.nestHost 8] #[{ accessFlags := 0, nameIndex := 5, descriptorIndex := 6, attributes := #[] }] 1056 2 #[77, 124] #[])
  fields := #[]
  methods := #[k25m0]
  instanceTypes := #[]
  staticTypes := #[]
  resolved := Array.replicate 196 none
  statics := none }

def pool26 : Array CpInfo := pool [(1, .methodref 2 3), (0, .class_ 4), (0, .nameAndType 5 6), (0, u "java/util/ImmutableCollections$AbstractImmutableList"), (0, u "<init>"), (0, u "()V"), (0, .methodref 8 9), (0, .class_ 10), (0, .nameAndType 11 12), (0, u "java/util/Objects"), (0, u "requireNonNull"), (0, u "(Ljava/lang/Object;)Ljava/lang/Object;"), (0, .fieldref 14 15), (0, .class_ 16), (0, .nameAndType 17 18), (0, u "java/util/ImmutableCollections$List12"), (0, u "e0"), (0, u "Ljava/lang/Object;"), (0, .fieldref 20 21), (0, .class_ 22), (0, .nameAndType 23 18), (0, u "java/util/ImmutableCollections"), (0, u "EMPTY"), (0, .fieldref 14 25), (0, .nameAndType 26 18), (0, u "e1"), (24, u "size"), (0, u "()I"), (17, .class_ 71), (0, u "java/io/Serializable"), (4, u "(Ljava/lang/Object;)V"), (8, u "(Ljava/lang/Object;Ljava/lang/Object;)V")] 39

def k26c0 : Code := { maxStack := 2, maxLocals := 2, code := jdk_44_method_1_code, exceptionTable := #[], attributes := #[] }
def k26m0 : Method := { name := "<init>", desc := "(Ljava/lang/Object;)V", sig := { parameters := [(.object "java/lang/Object")], returnType := none }, accessFlags := 0, code := some k26c0 }
def k26c1 : Code := { maxStack := 2, maxLocals := 3, code := jdk_44_method_2_code, exceptionTable := #[], attributes := #[] }
def k26m1 : Method := { name := "<init>", desc := "(Ljava/lang/Object;Ljava/lang/Object;)V", sig := { parameters := [(.object "java/lang/Object"), (.object "java/lang/Object")], returnType := none }, accessFlags := 0, code := some k26c1 }
def k26c2 : Code := { maxStack := 2, maxLocals := 1, code := jdk_44_method_3_code, exceptionTable := #[], attributes := #[] }
def k26m2 : Method := { name := "size", desc := "()I", sig := { parameters := [], returnType := some .int }, accessFlags := 1, code := some k26c2 }
/-- java/util/ImmutableCollections$List12 -/
def k26 : Class := { plain "java/util/ImmutableCollections$List12" (some 25) with
  accessFlags := 48
  interfaces := #[2]
  cf := some (fileOf pool26 14 #[.nestHost 20] #[{ accessFlags := 0, nameIndex := 5, descriptorIndex := 76, attributes := #[] }, { accessFlags := 0, nameIndex := 5, descriptorIndex := 85, attributes := #[] }, { accessFlags := 1, nameIndex := 51, descriptorIndex := 52, attributes := #[] }] 48 2 #[70] #[{ accessFlags := 18, nameIndex := 17, descriptorIndex := 18, attributes := #[] }, { accessFlags := 18, nameIndex := 26, descriptorIndex := 18, attributes := #[] }])
  fields := #[{ name := "e0", type := (.object "java/lang/Object"), accessFlags := 18, slot := 0, constantValue := 0 }, { name := "e1", type := (.object "java/lang/Object"), accessFlags := 18, slot := 1, constantValue := 0 }]
  methods := #[k26m0, k26m1, k26m2]
  instanceTypes := #[(.object "java/lang/Object"), (.object "java/lang/Object")]
  staticTypes := #[]
  resolved := Array.replicate 125 none
  statics := none }

def pool27 : Array CpInfo := pool [(1, .methodref 2 3), (0, .class_ 4), (0, .nameAndType 5 6), (0, u "java/util/ImmutableCollections$AbstractImmutableList"), (0, u "<init>"), (0, u "()V"), (0, .fieldref 8 9), (0, .class_ 10), (0, .nameAndType 11 12), (0, u "java/util/ImmutableCollections$ListN"), (0, u "elements"), (0, u "[Ljava/lang/Object;"), (0, .fieldref 8 14), (0, .nameAndType 15 16), (0, u "allowNulls"), (0, u "Z"), (42, .class_ 60), (0, u "java/io/Serializable"), (4, u "([Ljava/lang/Object;Z)V"), (11, u "size"), (0, u "()I"), (35, .class_ 115), (0, u "java/util/ImmutableCollections")] 3

def k27c0 : Code := { maxStack := 2, maxLocals := 3, code := jdk_45_method_1_code, exceptionTable := #[], attributes := #[] }
def k27m0 : Method := { name := "<init>", desc := "([Ljava/lang/Object;Z)V", sig := { parameters := [(.array (.object "java/lang/Object")), .boolean], returnType := none }, accessFlags := 2, code := some k27c0 }
def k27c1 : Code := { maxStack := 1, maxLocals := 1, code := jdk_45_method_3_code, exceptionTable := #[], attributes := #[] }
def k27m1 : Method := { name := "size", desc := "()I", sig := { parameters := [], returnType := some .int }, accessFlags := 1, code := some k27c1 }
/-- java/util/ImmutableCollections$ListN -/
def k27 : Class := { plain "java/util/ImmutableCollections$ListN" (some 25) with
  accessFlags := 48
  interfaces := #[2]
  cf := some (fileOf pool27 8 #[.nestHost 114] #[{ accessFlags := 2, nameIndex := 5, descriptorIndex := 65, attributes := #[] }, { accessFlags := 1, nameIndex := 77, descriptorIndex := 78, attributes := #[] }] 48 2 #[59] #[{ accessFlags := 18, nameIndex := 11, descriptorIndex := 12, attributes := #[] }, { accessFlags := 18, nameIndex := 15, descriptorIndex := 16, attributes := #[] }])
  fields := #[{ name := "elements", type := (.array (.object "java/lang/Object")), accessFlags := 18, slot := 0, constantValue := 0 }, { name := "allowNulls", type := .boolean, accessFlags := 18, slot := 1, constantValue := 0 }]
  methods := #[k27m0, k27m1]
  instanceTypes := #[(.array (.object "java/lang/Object")), .boolean]
  staticTypes := #[]
  resolved := Array.replicate 119 none
  statics := none }

def pool28 : Array CpInfo := pool [(1, .class_ 2), (0, u "java/lang/Math"), (1, .class_ 6), (1, u "java/lang/Object"), (0, u "<init>"), (0, u "()V"), (89, .class_ 100), (1, u "java/lang/Math$RandomNumberGeneratorHolder"), (71, u "negativeZeroFloatBits"), (0, u "J"), (2, u "negativeZeroDoubleBits"), (21, u "max"), (2, u "min"), (43, u "$assertionsDisabled"), (0, u "Z"), (88, u "(II)I"), (2, u "twoToTheDoubleScaleDown"), (0, u "D"), (4, u "twoToTheDoubleScaleUp"), (9, u "E"), (3, u "PI"), (2, u "TAU"), (2, u "DEGREES_TO_RADIANS"), (0, u "RADIANS_TO_DEGREES")] 94

def k28m0 : Method := { name := "<init>", desc := "()V", sig := { parameters := [], returnType := none }, accessFlags := 2, code := none }
def k28c1 : Code := { maxStack := 2, maxLocals := 2, code := jdk_29_method_65_code, exceptionTable := #[], attributes := #[] }
def k28m1 : Method := { name := "max", desc := "(II)I", sig := { parameters := [.int, .int], returnType := some .int }, accessFlags := 9, code := some k28c1 }
def k28c2 : Code := { maxStack := 2, maxLocals := 2, code := jdk_29_method_69_code, exceptionTable := #[], attributes := #[] }
def k28m2 : Method := { name := "min", desc := "(II)I", sig := { parameters := [.int, .int], returnType := some .int }, accessFlags := 9, code := some k28c2 }
/-- java/lang/Math -/
def k28 : Class := { plain "java/lang/Math" (some 0) with
  accessFlags := 49
  interfaces := #[]
  cf := some (fileOf pool28 1 #[.nestMembers #[98]] #[{ accessFlags := 2, nameIndex := 7, descriptorIndex := 8, attributes := #[] }, { accessFlags := 9, nameIndex := 198, descriptorIndex := 335, attributes := #[] }, { accessFlags := 9, nameIndex := 201, descriptorIndex := 335, attributes := #[] }] 49 4 #[] #[{ accessFlags := 25, nameIndex := 354, descriptorIndex := 339, attributes := #[] }, { accessFlags := 25, nameIndex := 358, descriptorIndex := 339, attributes := #[] }, { accessFlags := 25, nameIndex := 361, descriptorIndex := 339, attributes := #[] }, { accessFlags := 26, nameIndex := 364, descriptorIndex := 339, attributes := #[] }, { accessFlags := 26, nameIndex := 365, descriptorIndex := 339, attributes := #[] }, { accessFlags := 26, nameIndex := 172, descriptorIndex := 173, attributes := #[] }, { accessFlags := 26, nameIndex := 176, descriptorIndex := 173, attributes := #[] }, { accessFlags := 8, nameIndex := 344, descriptorIndex := 339, attributes := #[] }, { accessFlags := 8, nameIndex := 338, descriptorIndex := 339, attributes := #[] }, { accessFlags := 4120, nameIndex := 245, descriptorIndex := 246, attributes := #[] }])
  fields := #[{ name := "E", type := .double, accessFlags := 25, slot := 0, constantValue := 0 }, { name := "PI", type := .double, accessFlags := 25, slot := 1, constantValue := 0 }, { name := "TAU", type := .double, accessFlags := 25, slot := 2, constantValue := 0 }, { name := "DEGREES_TO_RADIANS", type := .double, accessFlags := 26, slot := 3, constantValue := 0 }, { name := "RADIANS_TO_DEGREES", type := .double, accessFlags := 26, slot := 4, constantValue := 0 }, { name := "negativeZeroFloatBits", type := .long, accessFlags := 26, slot := 5, constantValue := 0 }, { name := "negativeZeroDoubleBits", type := .long, accessFlags := 26, slot := 6, constantValue := 0 }, { name := "twoToTheDoubleScaleUp", type := .double, accessFlags := 8, slot := 7, constantValue := 0 }, { name := "twoToTheDoubleScaleDown", type := .double, accessFlags := 8, slot := 8, constantValue := 0 }, { name := "$assertionsDisabled", type := .boolean, accessFlags := 4120, slot := 9, constantValue := 0 }]
  methods := #[k28m0, k28m1, k28m2]
  instanceTypes := #[]
  staticTypes := #[.double, .double, .double, .double, .double, .long, .long, .double, .double, .boolean]
  resolved := Array.replicate 460 none
  statics := none }

def pool29 : Array CpInfo := pool [(2, .class_ 4), (1, u "java/lang/Object"), (0, u "<init>"), (0, u "()V"), (7, .class_ 16), (1, u "java/util/Arrays"), (57, .class_ 76), (1, u "java/util/Arrays$NaturalOrder"), (9, .methodref 2 87), (0, .nameAndType 88 89), (0, u "getClass"), (0, u "()Ljava/lang/Class;"), (20, .class_ 111), (0, u "[Ljava/lang/Object;"), (1, .class_ 115), (1, u "java/util/Arrays$LegacyMergeSort"), (1, u "Z"), (32, .methodref 151 152), (0, .class_ 153), (0, .nameAndType 154 155), (0, u "java/lang/System"), (0, u "arraycopy"), (0, u "(Ljava/lang/Object;ILjava/lang/Object;II)V"), (144, .methodref 14 301), (0, .nameAndType 302 303), (0, u "copyOf"), (0, u "([Ljava/lang/Object;ILjava/lang/Class;)[Ljava/lang/Object;"), (0, .methodref 305 306), (0, .class_ 307), (0, .nameAndType 308 309), (0, u "java/lang/Math"), (0, u "min"), (0, u "(II)I"), (65, .class_ 376), (0, u "java/util/Arrays$ArrayList"), (68, u "$assertionsDisabled"), (269, u "MIN_ARRAY_SORT_GRAN"), (0, u "I"), (2, u "INSERTIONSORT_THRESHOLD"), (140, u "([Ljava/lang/Object;I)[Ljava/lang/Object;"), (114, .class_ 976), (0, u "java/util/Arrays$ArrayItr")] 52

def k29m0 : Method := { name := "<init>", desc := "()V", sig := { parameters := [], returnType := none }, accessFlags := 2, code := none }
def k29c1 : Code := { maxStack := 3, maxLocals := 2, code := jdk_65_method_119_code, exceptionTable := #[], attributes := #[] }
def k29m1 : Method := { name := "copyOf", desc := "([Ljava/lang/Object;I)[Ljava/lang/Object;", sig := { parameters := [(.array (.object "java/lang/Object")), .int], returnType := some (.array (.object "java/lang/Object")) }, accessFlags := 9, code := some k29c1 }
def k29c2 : Code := { maxStack := 6, maxLocals := 4, code := jdk_65_method_120_code, exceptionTable := #[], attributes := #[] }
def k29m2 : Method := { name := "copyOf", desc := "([Ljava/lang/Object;ILjava/lang/Class;)[Ljava/lang/Object;", sig := { parameters := [(.array (.object "java/lang/Object")), .int, (.object "java/lang/Class")], returnType := some (.array (.object "java/lang/Object")) }, accessFlags := 9, code := some k29c2 }
/-- java/util/Arrays -/
def k29 : Class := { plain "java/util/Arrays" (some 0) with
  accessFlags := 49
  interfaces := #[]
  cf := some (fileOf pool29 14 #[.nestMembers #[975, 375, 113, 74]] #[{ accessFlags := 2, nameIndex := 5, descriptorIndex := 6, attributes := #[] }, { accessFlags := 9, nameIndex := 302, descriptorIndex := 860, attributes := #[] }, { accessFlags := 9, nameIndex := 302, descriptorIndex := 303, attributes := #[] }] 49 2 #[] #[{ accessFlags := 26, nameIndex := 715, descriptorIndex := 716, attributes := #[] }, { accessFlags := 26, nameIndex := 719, descriptorIndex := 716, attributes := #[] }, { accessFlags := 4120, nameIndex := 445, descriptorIndex := 117, attributes := #[] }])
  fields := #[{ name := "MIN_ARRAY_SORT_GRAN", type := .int, accessFlags := 26, slot := 0, constantValue := 0 }, { name := "INSERTIONSORT_THRESHOLD", type := .int, accessFlags := 26, slot := 1, constantValue := 0 }, { name := "$assertionsDisabled", type := .boolean, accessFlags := 4120, slot := 2, constantValue := 0 }]
  methods := #[k29m0, k29m1, k29m2]
  instanceTypes := #[]
  staticTypes := #[.int, .int, .boolean]
  resolved := Array.replicate 1029 none
  statics := none }

def pool30 : Array CpInfo := pool [(2, .class_ 4), (1, u "java/lang/Object"), (0, u "<init>"), (0, u "()V"), (1, .class_ 10), (1, u "java/lang/System"), (0, u "allowSecurityManager"), (0, u "I"), (16, u "cons"), (0, u "Ljava/io/Console;"), (77, .class_ 110), (1, u "java/lang/System$CallersHolder"), (43, u "initialErrStream"), (0, u "Ljava/io/PrintStream;"), (19, u "security"), (0, u "Ljava/lang/SecurityManager;"), (31, .class_ 209), (0, u "java/lang/System$1"), (7, u "props"), (0, u "Ljava/util/Properties;"), (2, u "lineSeparator"), (0, u "Ljava/lang/String;"), (96, .class_ 321), (1, u "java/lang/System$LoggerFinder"), (5, .class_ 328), (0, u "java/lang/System$Logger"), (67, u "err"), (2, u "out"), (91, u "notSupportedJnuEncoding"), (15, u "in"), (17, u "initialIn"), (0, u "Ljava/io/InputStream;"), (35, u "bootLayer"), (0, u "Ljava/lang/ModuleLayer;"), (99, .class_ 664), (0, u "java/lang/System$2"), (9, u "NEVER"), (2, u "MAYBE"), (49, u "arraycopy"), (0, u "(Ljava/lang/Object;ILjava/lang/Object;II)V"), (72, .class_ 802), (0, u "java/lang/System$Logger$Level")] 31

def k30m0 : Method := { name := "<init>", desc := "()V", sig := { parameters := [], returnType := none }, accessFlags := 2, code := none }
def k30m1 : Method := { name := "arraycopy", desc := "(Ljava/lang/Object;ILjava/lang/Object;II)V", sig := { parameters := [(.object "java/lang/Object"), .int, (.object "java/lang/Object"), .int, .int], returnType := none }, accessFlags := 265, code := none }
/-- java/lang/System -/
def k30 : Class := { plain "java/lang/System" (some 0) with
  accessFlags := 49
  interfaces := #[]
  cf := some (fileOf pool30 8 #[.nestMembers #[319, 327, 801, 108, 663, 208]] #[{ accessFlags := 2, nameIndex := 5, descriptorIndex := 6, attributes := #[] }, { accessFlags := 265, nameIndex := 727, descriptorIndex := 728, attributes := #[] }] 49 2 #[] #[{ accessFlags := 25, nameIndex := 507, descriptorIndex := 526, attributes := #[] }, { accessFlags := 25, nameIndex := 399, descriptorIndex := 155, attributes := #[] }, { accessFlags := 25, nameIndex := 396, descriptorIndex := 155, attributes := #[] }, { accessFlags := 10, nameIndex := 525, descriptorIndex := 526, attributes := #[] }, { accessFlags := 26, nameIndex := 674, descriptorIndex := 12, attributes := #[] }, { accessFlags := 26, nameIndex := 677, descriptorIndex := 12, attributes := #[] }, { accessFlags := 10, nameIndex := 11, descriptorIndex := 12, attributes := #[] }, { accessFlags := 74, nameIndex := 175, descriptorIndex := 176, attributes := #[] }, { accessFlags := 10, nameIndex := 491, descriptorIndex := 222, attributes := #[] }, { accessFlags := 74, nameIndex := 29, descriptorIndex := 30, attributes := #[] }, { accessFlags := 74, nameIndex := 154, descriptorIndex := 155, attributes := #[] }, { accessFlags := 10, nameIndex := 217, descriptorIndex := 218, attributes := #[] }, { accessFlags := 10, nameIndex := 221, descriptorIndex := 222, attributes := #[] }, { accessFlags := 8, nameIndex := 562, descriptorIndex := 563, attributes := #[] }])
  fields := #[{ name := "in", type := (.object "java/io/InputStream"), accessFlags := 25, slot := 0, constantValue := 0 }, { name := "out", type := (.object "java/io/PrintStream"), accessFlags := 25, slot := 1, constantValue := 0 }, { name := "err", type := (.object "java/io/PrintStream"), accessFlags := 25, slot := 2, constantValue := 0 }, { name := "initialIn", type := (.object "java/io/InputStream"), accessFlags := 10, slot := 3, constantValue := 0 }, { name := "NEVER", type := .int, accessFlags := 26, slot := 4, constantValue := 0 }, { name := "MAYBE", type := .int, accessFlags := 26, slot := 5, constantValue := 0 }, { name := "allowSecurityManager", type := .int, accessFlags := 10, slot := 6, constantValue := 0 }, { name := "security", type := (.object "java/lang/SecurityManager"), accessFlags := 74, slot := 7, constantValue := 0 }, { name := "notSupportedJnuEncoding", type := (.object "java/lang/String"), accessFlags := 10, slot := 8, constantValue := 0 }, { name := "cons", type := (.object "java/io/Console"), accessFlags := 74, slot := 9, constantValue := 0 }, { name := "initialErrStream", type := (.object "java/io/PrintStream"), accessFlags := 74, slot := 10, constantValue := 0 }, { name := "props", type := (.object "java/util/Properties"), accessFlags := 10, slot := 11, constantValue := 0 }, { name := "lineSeparator", type := (.object "java/lang/String"), accessFlags := 10, slot := 12, constantValue := 0 }, { name := "bootLayer", type := (.object "java/lang/ModuleLayer"), accessFlags := 8, slot := 13, constantValue := 0 }]
  methods := #[k30m0, k30m1]
  instanceTypes := #[]
  staticTypes := #[(.object "java/io/InputStream"), (.object "java/io/PrintStream"), (.object "java/io/PrintStream"), (.object "java/io/InputStream"), .int, .int, .int, (.object "java/lang/SecurityManager"), (.object "java/lang/String"), (.object "java/io/Console"), (.object "java/io/PrintStream"), (.object "java/util/Properties"), (.object "java/lang/String"), (.object "java/lang/ModuleLayer")]
  resolved := Array.replicate 834 none
  statics := none }

def pool31 : Array CpInfo := pool [(2, .class_ 4), (1, u "java/lang/Object"), (0, u "<init>"), (0, u "()V"), (35, .class_ 44), (1, u "java/util/Objects"), (0, u "requireNonNull"), (0, u "(Ljava/lang/Object;)Ljava/lang/Object;")] 137

def k31m0 : Method := { name := "<init>", desc := "()V", sig := { parameters := [], returnType := none }, accessFlags := 2, code := none }
def k31c1 : Code := { maxStack := 2, maxLocals := 1, code := jdk_31_method_10_code, exceptionTable := #[], attributes := #[] }
def k31m1 : Method := { name := "requireNonNull", desc := "(Ljava/lang/Object;)Ljava/lang/Object;", sig := { parameters := [(.object "java/lang/Object")], returnType := some (.object "java/lang/Object") }, accessFlags := 9, code := some k31c1 }
/-- java/util/Objects -/
def k31 : Class := { plain "java/util/Objects" (some 0) with
  accessFlags := 49
  interfaces := #[]
  cf := some (fileOf pool31 42 #[] #[{ accessFlags := 2, nameIndex := 5, descriptorIndex := 6, attributes := #[] }, { accessFlags := 9, nameIndex := 45, descriptorIndex := 46, attributes := #[] }] 49 2 #[] #[])
  fields := #[]
  methods := #[k31m0, k31m1]
  instanceTypes := #[]
  staticTypes := #[]
  resolved := Array.replicate 184 none
  statics := none }

def pool32 : Array CpInfo := pool [(2, .class_ 4), (1, u "java/lang/Object"), (0, u "<init>"), (0, u "()V"), (17, .class_ 26), (1, u "jdk/internal/util/Preconditions"), (28, .class_ 56), (0, u "jdk/internal/util/Preconditions$4"), (57, .class_ 115), (0, u "jdk/internal/util/Preconditions$1"), (7, u "SIOOBE_FORMATTER"), (0, u "Ljava/util/function/BiFunction;"), (0, .class_ 126), (0, u "jdk/internal/util/Preconditions$2"), (3, u "AIOOBE_FORMATTER"), (0, .class_ 132), (0, u "jdk/internal/util/Preconditions$3"), (3, u "IOOBE_FORMATTER")] 57

def k32m0 : Method := { name := "<init>", desc := "()V", sig := { parameters := [], returnType := none }, accessFlags := 1, code := none }
/-- jdk/internal/util/Preconditions -/
def k32 : Class := { plain "jdk/internal/util/Preconditions" (some 0) with
  accessFlags := 33
  interfaces := #[]
  cf := some (fileOf pool32 24 #[.nestMembers #[55, 131, 125, 114]] #[{ accessFlags := 1, nameIndex := 5, descriptorIndex := 6, attributes := #[] }] 33 2 #[] #[{ accessFlags := 25, nameIndex := 123, descriptorIndex := 124, attributes := #[] }, { accessFlags := 25, nameIndex := 130, descriptorIndex := 124, attributes := #[] }, { accessFlags := 25, nameIndex := 136, descriptorIndex := 124, attributes := #[] }])
  fields := #[{ name := "SIOOBE_FORMATTER", type := (.object "java/util/function/BiFunction"), accessFlags := 25, slot := 0, constantValue := 0 }, { name := "AIOOBE_FORMATTER", type := (.object "java/util/function/BiFunction"), accessFlags := 25, slot := 1, constantValue := 0 }, { name := "IOOBE_FORMATTER", type := (.object "java/util/function/BiFunction"), accessFlags := 25, slot := 2, constantValue := 0 }]
  methods := #[k32m0]
  instanceTypes := #[]
  staticTypes := #[(.object "java/util/function/BiFunction"), (.object "java/util/function/BiFunction"), (.object "java/util/function/BiFunction")]
  resolved := Array.replicate 194 none
  statics := some 3 }

def pool33 : Array CpInfo := pool [(9, u "<init>"), (6, .class_ 18), (1, u "java/lang/Object"), (0, u "()V"), (1, .class_ 23), (1, u "jdk/internal/util/ArraysSupport"), (0, u "LOG2_ARRAY_LONG_INDEX_SCALE"), (0, u "I"), (2, u "U"), (0, u "Ljdk/internal/misc/Unsafe;"), (8, u "BIG_ENDIAN"), (0, u "Z"), (8, u "LOG2_BYTE_BIT_SIZE"), (4, u "LOG2_ARRAY_INT_INDEX_SCALE"), (54, u "JLA"), (0, u "Ljdk/internal/access/JavaLangAccess;"), (11, u "LOG2_ARRAY_BOOLEAN_INDEX_SCALE"), (9, u "LOG2_ARRAY_BYTE_INDEX_SCALE"), (5, u "LOG2_ARRAY_CHAR_INDEX_SCALE"), (5, u "LOG2_ARRAY_SHORT_INDEX_SCALE"), (18, u "LOG2_ARRAY_FLOAT_INDEX_SCALE"), (24, u "LOG2_ARRAY_DOUBLE_INDEX_SCALE"), (89, u "T_BOOLEAN"), (2, u "T_CHAR"), (1, u "T_FLOAT"), (1, u "T_DOUBLE"), (1, u "T_BYTE"), (1, u "T_SHORT"), (1, u "T_INT"), (1, u "T_LONG"), (1, u "SOFT_MAX_ARRAY_LENGTH")] 83

def k33m0 : Method := { name := "<init>", desc := "()V", sig := { parameters := [], returnType := none }, accessFlags := 2, code := none }
/-- jdk/internal/util/ArraysSupport -/
def k33 : Class := { plain "jdk/internal/util/ArraysSupport" (some 0) with
  accessFlags := 33
  interfaces := #[]
  cf := some (fileOf pool33 21 #[] #[{ accessFlags := 2, nameIndex := 9, descriptorIndex := 19, attributes := #[] }] 33 16 #[] #[{ accessFlags := 24, nameIndex := 28, descriptorIndex := 29, attributes := #[] }, { accessFlags := 26, nameIndex := 38, descriptorIndex := 39, attributes := #[] }, { accessFlags := 25, nameIndex := 121, descriptorIndex := 25, attributes := #[] }, { accessFlags := 25, nameIndex := 131, descriptorIndex := 25, attributes := #[] }, { accessFlags := 25, nameIndex := 137, descriptorIndex := 25, attributes := #[] }, { accessFlags := 25, nameIndex := 143, descriptorIndex := 25, attributes := #[] }, { accessFlags := 25, nameIndex := 53, descriptorIndex := 25, attributes := #[] }, { accessFlags := 25, nameIndex := 24, descriptorIndex := 25, attributes := #[] }, { accessFlags := 25, nameIndex := 162, descriptorIndex := 25, attributes := #[] }, { accessFlags := 25, nameIndex := 187, descriptorIndex := 25, attributes := #[] }, { accessFlags := 26, nameIndex := 48, descriptorIndex := 25, attributes := #[] }, { accessFlags := 25, nameIndex := 277, descriptorIndex := 25, attributes := #[] }, { accessFlags := 25, nameIndex := 280, descriptorIndex := 25, attributes := #[] }, { accessFlags := 25, nameIndex := 282, descriptorIndex := 25, attributes := #[] }, { accessFlags := 25, nameIndex := 284, descriptorIndex := 25, attributes := #[] }, { accessFlags := 25, nameIndex := 286, descriptorIndex := 25, attributes := #[] }, { accessFlags := 25, nameIndex := 288, descriptorIndex := 25, attributes := #[] }, { accessFlags := 25, nameIndex := 290, descriptorIndex := 25, attributes := #[] }, { accessFlags := 25, nameIndex := 292, descriptorIndex := 25, attributes := #[] }, { accessFlags := 26, nameIndex := 108, descriptorIndex := 109, attributes := #[] }, { accessFlags := 25, nameIndex := 294, descriptorIndex := 25, attributes := #[] }])
  fields := #[{ name := "U", type := (.object "jdk/internal/misc/Unsafe"), accessFlags := 24, slot := 0, constantValue := 0 }, { name := "BIG_ENDIAN", type := .boolean, accessFlags := 26, slot := 1, constantValue := 0 }, { name := "LOG2_ARRAY_BOOLEAN_INDEX_SCALE", type := .int, accessFlags := 25, slot := 2, constantValue := 0 }, { name := "LOG2_ARRAY_BYTE_INDEX_SCALE", type := .int, accessFlags := 25, slot := 3, constantValue := 0 }, { name := "LOG2_ARRAY_CHAR_INDEX_SCALE", type := .int, accessFlags := 25, slot := 4, constantValue := 0 }, { name := "LOG2_ARRAY_SHORT_INDEX_SCALE", type := .int, accessFlags := 25, slot := 5, constantValue := 0 }, { name := "LOG2_ARRAY_INT_INDEX_SCALE", type := .int, accessFlags := 25, slot := 6, constantValue := 0 }, { name := "LOG2_ARRAY_LONG_INDEX_SCALE", type := .int, accessFlags := 25, slot := 7, constantValue := 0 }, { name := "LOG2_ARRAY_FLOAT_INDEX_SCALE", type := .int, accessFlags := 25, slot := 8, constantValue := 0 }, { name := "LOG2_ARRAY_DOUBLE_INDEX_SCALE", type := .int, accessFlags := 25, slot := 9, constantValue := 0 }, { name := "LOG2_BYTE_BIT_SIZE", type := .int, accessFlags := 26, slot := 10, constantValue := 0 }, { name := "T_BOOLEAN", type := .int, accessFlags := 25, slot := 11, constantValue := 0 }, { name := "T_CHAR", type := .int, accessFlags := 25, slot := 12, constantValue := 0 }, { name := "T_FLOAT", type := .int, accessFlags := 25, slot := 13, constantValue := 0 }, { name := "T_DOUBLE", type := .int, accessFlags := 25, slot := 14, constantValue := 0 }, { name := "T_BYTE", type := .int, accessFlags := 25, slot := 15, constantValue := 0 }, { name := "T_SHORT", type := .int, accessFlags := 25, slot := 16, constantValue := 0 }, { name := "T_INT", type := .int, accessFlags := 25, slot := 17, constantValue := 0 }, { name := "T_LONG", type := .int, accessFlags := 25, slot := 18, constantValue := 0 }, { name := "JLA", type := (.object "jdk/internal/access/JavaLangAccess"), accessFlags := 26, slot := 19, constantValue := 0 }, { name := "SOFT_MAX_ARRAY_LENGTH", type := .int, accessFlags := 25, slot := 20, constantValue := 0 }]
  methods := #[k33m0]
  instanceTypes := #[]
  staticTypes := #[(.object "jdk/internal/misc/Unsafe"), .boolean, .int, .int, .int, .int, .int, .int, .int, .int, .int, .int, .int, .int, .int, .int, .int, .int, .int, (.object "jdk/internal/access/JavaLangAccess"), .int]
  resolved := Array.replicate 378 none
  statics := none }

def pool34 : Array CpInfo := pool [(1, u "java/lang/Class"), (0, .class_ 1), (0, u "java/lang/Object"), (0, .class_ 3)] 0

/-- java/lang/Class -/
def k34 : Class := { plain "java/lang/Class" (some 0) with
  accessFlags := 33
  interfaces := #[]
  cf := some (fileOf pool34 2 #[] #[] 33 4 #[] #[])
  fields := #[]
  methods := #[]
  instanceTypes := #[]
  staticTypes := #[]
  resolved := Array.replicate 5 none
  statics := none }

/-- the primitive byte -/
def k35 : Class := { plain "byte" none with kind := .primitive 'B', accessFlags := 0x411 }
/-- [B -/
def k36 : Class := { plain "[B" (some 0) with kind := .array 35 .byte, interfaces := #[20, 2], accessFlags := 1041 }

/-- the primitive int -/
def k37 : Class := { plain "int" none with kind := .primitive 'I', accessFlags := 0x411 }
/-- [I -/
def k38 : Class := { plain "[I" (some 0) with kind := .array 37 .int, interfaces := #[20, 2], accessFlags := 1041 }

/-- [Ljava/lang/Object; -/
def k39 : Class := { plain "[Ljava/lang/Object;" (some 0) with kind := .array 0 (.object "java/lang/Object"), mirror := some 4, interfaces := #[20, 2], accessFlags := 1041 }

def heap : Heap := #[{ cls := 7, slots := #[.long 0, .int 1, .null, .int 0, .null, .int 0, .int 0], vm := .statics 7 },
  { cls := 21, slots := #[.long 0, .int 0, .ref 5, .ref 6], vm := .statics 21 },
  { cls := 23, slots := #[.long 0, .int 0, .null, .ref 8, .ref 7, .null, .null, .null, .int 0, .int 1], vm := .statics 23 },
  { cls := 32, slots := #[.null, .null, .null], vm := .statics 32 },
  { cls := 34, slots := #[], vm := .mirror 39 },
  { cls := 39, slots := #[], vm := .none },
  { cls := 39, slots := #[], vm := .none },
  { cls := 27, slots := #[.ref 5, .int 0], vm := .none },
  { cls := 0, slots := #[], vm := .none }]
def classes : Array Class := #[k0, k1, k2, k3, k4, k5, k6, k7, k8, k9, k10, k11, k12, k13, k14, k15, k16, k17, k18, k19, k20, k21, k22, k23, k24, k25, k26, k27, k28, k29, k30, k31, k32, k33, k34, k35, k36, k37, k38, k39]
def interned : List (Array UInt16 × Addr) := []
def slotsUsed : Nat := 26
def theMethod : MethodId := ⟨1, 1⟩
def args0 : Array Value := #[.int 5, .int 1, .int 65, .int 3]
def aboutOver (below : List Frame) : State where
  vm := { classes := classes, interned := interned.toArray }
  heap := heap
  slotsUsed := slotsUsed
  threads := #[{ frames := .invoking theMethod args0 :: below }]
def below0 : List Frame := [.native { method := ⟨0, 0⟩, args := #[] }]
def about1 : State := aboutOver below0
def p0 : Program := .bare "" "" ""
def e0 : Env := launch0.env 0 0 0
theorem w_frames : about1.frames = Frame.invoking theMethod args0 :: below0 := rfl
set_option maxRecDepth 65536 in
theorem w_args : argsFit about1.vm theMethod args0 = true := by decide +kernel
set_option maxRecDepth 65536 in
theorem w_heap : heapFits about1 = true := by decide +kernel
set_option maxRecDepth 65536 in
theorem w_runnable : about1.curStatus? = some .runnable := by decide +kernel
set_option maxRecDepth 65536 in
theorem w_alone : about1.alone = true := by decide +kernel
set_option maxRecDepth 65536 in
theorem w_named : about1.methodNamed? x = some theMethod := by decide +kernel
set_option maxRecDepth 65536 in
theorem w_hears : about1.hears theMethod below0 = true := by decide +kernel
set_option maxRecDepth 65536 in
theorem w_ripe : about1.ripe theMethod args0 below0 = true := by decide +kernel
theorem w_running : about1.status = .running := rfl
set_option maxRecDepth 65536 in
theorem w_room : about1.hasRoom e0.platform room_1 = true :=
  launch0.hasRoom_least _ room_1 (by decide +kernel) (by decide +kernel) (by decide +kernel) (by decide +kernel) (by decide +kernel) (by decide +kernel)
theorem allAtoms_all (ts : List Jvm.Cond) (a : Array Jvm.Value) (st : Jvm.State) : (allAtoms ts).before a st = ts.all (fun c => c.before a st) := by
  induction ts with
  | nil => rfl
  | cons c t ih =>
    show (Jvm.Cond.and c (allAtoms t)).before a st = _
    rw [Jvm.Cond.before_and, ih, List.all_cons]
def words1 : List Jvm.Cond := Jvm.Cond.code x code maxLocals ret :: tables_1
/-- a 'code' word, met by the world's own term for the bytes: nothing is compared byte by byte -/
theorem code_word {y : MethodName} {bytes : ByteArray} {mx : Nat} {rt : Option FieldType} {a : Array Value} {s : State} {m : MethodId} {meth : Method} {c : Code} (h1 : s.methodNamed? y = some m) (h2 : s.vm.method? m = some meth) (h3 : meth.code = some c) (h4 : c.code = bytes)
    (h5 : (c.maxLocals == mx && c.exceptionTable.isEmpty && decide (c.maxStack ≤ mostOperands) && decide (meth.sig.returnType = rt) && !meth.locks && decide (parseMethodDescriptor y.desc = some meth.sig)) = true) : (Jvm.Cond.code y bytes mx rt).before a s = true := by
  simp only [Bool.and_eq_true, beq_iff_eq, Bool.not_eq_true', decide_eq_true_eq] at h5
  obtain ⟨⟨⟨⟨⟨g1, g2⟩, g3⟩, g4⟩, g5⟩, g6⟩ := h5
  simp [Cond.before, Cond.holds, Cond.value, h1, h2, h3, h4, g1, g2, g3, g4, g5, g6]
def isCode : Jvm.Cond → Bool
  | .code _ _ _ _ => true
  | _ => false
theorem all_split {L : List Jvm.Cond} {P : Jvm.Cond → Bool} (h1 : L.all (fun c => isCode c || P c) = true) (h2 : ∀ c ∈ L.filter isCode, P c = true) : L.all P = true := by
  refine List.all_eq_true.mpr fun c hc => ?_
  have h := List.all_eq_true.mp h1 c hc
  rcases Bool.eq_false_or_eq_true (isCode c) with hi | hi
  · exact h2 c (List.mem_filter.mpr ⟨hc, hi⟩)
  · simpa [hi] using h
set_option maxRecDepth 65536 in
theorem w_c0 : (Jvm.Cond.code x code maxLocals ret).before args0 about1 = true := code_word (m := ⟨1, 1⟩) (meth := k1m1) (c := k1c1) (by decide +kernel) rfl rfl rfl (by decide +kernel)
set_option maxRecDepth 65536 in
theorem w_c1 : (Jvm.Cond.code ({ cls := "java/lang/String", name := "valueOf", desc := "(C)Ljava/lang/String;" } : Jvm.MethodName) jdk_42_method_139_code (1 : Nat) (Option.some (Jvm.ClassFile.FieldType.object "java/lang/String"))).before args0 about1 = true := code_word (m := ⟨7, 1⟩) (meth := k7m1) (c := k7c1) (by decide +kernel) rfl rfl rfl (by decide +kernel)
set_option maxRecDepth 65536 in
theorem w_c2 : (Jvm.Cond.code ({ cls := "java/lang/StringLatin1", name := "canEncode", desc := "(C)Z" } : Jvm.MethodName) jdk_43_method_3_code (1 : Nat) (Option.some Jvm.ClassFile.FieldType.boolean)).before args0 about1 = true := code_word (m := ⟨8, 1⟩) (meth := k8m1) (c := k8c1) (by decide +kernel) rfl rfl rfl (by decide +kernel)
set_option maxRecDepth 65536 in
theorem w_c3 : (Jvm.Cond.code ({ cls := "java/lang/StringLatin1", name := "toBytes", desc := "(C)[B" } : Jvm.MethodName) jdk_43_method_46_code (1 : Nat) (Option.some (Jvm.ClassFile.FieldType.array Jvm.ClassFile.FieldType.byte))).before args0 about1 = true := code_word (m := ⟨8, 2⟩) (meth := k8m2) (c := k8c2) (by decide +kernel) rfl rfl rfl (by decide +kernel)
set_option maxRecDepth 65536 in
theorem w_c4 : (Jvm.Cond.code ({ cls := "java/lang/String", name := "<init>", desc := "([BB)V" } : Jvm.MethodName) jdk_42_method_151_code (3 : Nat) (Option.none : Option Jvm.ClassFile.FieldType)).before args0 about1 = true := code_word (m := ⟨7, 2⟩) (meth := k7m2) (c := k7c2) (by decide +kernel) rfl rfl rfl (by decide +kernel)
set_option maxRecDepth 65536 in
theorem w_c5 : (Jvm.Cond.code ({ cls := "java/lang/Object", name := "<init>", desc := "()V" } : Jvm.MethodName) object_method_1_code (1 : Nat) (Option.none : Option Jvm.ClassFile.FieldType)).before args0 about1 = true := code_word (m := ⟨0, 0⟩) (meth := k0m0) (c := k0c0) (by decide +kernel) rfl rfl rfl (by decide +kernel)
set_option maxRecDepth 65536 in
theorem w_c6 : (Jvm.Cond.code ({ cls := "com/example/tranche/tranche/journal/Entry", name := "<init>", desc := "(ILjava/time/LocalDate;Ljava/time/LocalDate;)V" } : Jvm.MethodName) prog_28_method_1_code (4 : Nat) (Option.none : Option Jvm.ClassFile.FieldType)).before args0 about1 = true := code_word (m := ⟨12, 0⟩) (meth := k12m0) (c := k12c0) (by decide +kernel) rfl rfl rfl (by decide +kernel)
set_option maxRecDepth 65536 in
theorem w_c7 : (Jvm.Cond.code ({ cls := "java/lang/Record", name := "<init>", desc := "()V" } : Jvm.MethodName) jdk_30_method_1_code (1 : Nat) (Option.none : Option Jvm.ClassFile.FieldType)).before args0 about1 = true := code_word (m := ⟨9, 0⟩) (meth := k9m0) (c := k9c0) (by decide +kernel) rfl rfl rfl (by decide +kernel)
set_option maxRecDepth 65536 in
theorem w_c8 : (Jvm.Cond.code ({ cls := "com/example/tranche/tranche/journal/DefaultRateChange", name := "<init>", desc := "(Lcom/example/tranche/tranche/journal/Entry;Z)V" } : Jvm.MethodName) prog_27_method_1_code (3 : Nat) (Option.none : Option Jvm.ClassFile.FieldType)).before args0 about1 = true := code_word (m := ⟨11, 0⟩) (meth := k11m0) (c := k11c0) (by decide +kernel) rfl rfl rfl (by decide +kernel)
set_option maxRecDepth 65536 in
theorem w_c9 : (Jvm.Cond.code ({ cls := "java/util/ArrayList", name := "<init>", desc := "()V" } : Jvm.MethodName) jdk_38_method_2_code (1 : Nat) (Option.none : Option Jvm.ClassFile.FieldType)).before args0 about1 = true := code_word (m := ⟨21, 0⟩) (meth := k21m0) (c := k21c0) (by decide +kernel) rfl rfl rfl (by decide +kernel)
set_option maxRecDepth 65536 in
theorem w_c10 : (Jvm.Cond.code ({ cls := "java/util/AbstractList", name := "<init>", desc := "()V" } : Jvm.MethodName) jdk_39_method_1_code (1 : Nat) (Option.none : Option Jvm.ClassFile.FieldType)).before args0 about1 = true := code_word (m := ⟨18, 0⟩) (meth := k18m0) (c := k18c0) (by decide +kernel) rfl rfl rfl (by decide +kernel)
set_option maxRecDepth 65536 in
theorem w_c11 : (Jvm.Cond.code ({ cls := "java/util/AbstractCollection", name := "<init>", desc := "()V" } : Jvm.MethodName) jdk_22_method_1_code (1 : Nat) (Option.none : Option Jvm.ClassFile.FieldType)).before args0 about1 = true := code_word (m := ⟨15, 0⟩) (meth := k15m0) (c := k15c0) (by decide +kernel) rfl rfl rfl (by decide +kernel)
set_option maxRecDepth 65536 in
theorem w_c12 : (Jvm.Cond.code ({ cls := "com/example/tranche/tranche/journal/Journal", name := "<init>", desc := "(Ljava/lang/String;Ljava/util/List;Z)V" } : Jvm.MethodName) prog_35_method_1_code (4 : Nat) (Option.none : Option Jvm.ClassFile.FieldType)).before args0 about1 = true := code_word (m := ⟨22, 0⟩) (meth := k22m0) (c := k22c0) (by decide +kernel) rfl rfl rfl (by decide +kernel)
set_option maxRecDepth 65536 in
theorem w_c13 : (Jvm.Cond.code ({ cls := "java/util/List", name := "copyOf", desc := "(Ljava/util/Collection;)Ljava/util/List;" } : Jvm.MethodName) jdk_40_method_48_code (1 : Nat) (Option.some (Jvm.ClassFile.FieldType.object "java/util/List"))).before args0 about1 = true := code_word (m := ⟨17, 3⟩) (meth := k17m3) (c := k17c3) (by decide +kernel) rfl rfl rfl (by decide +kernel)
set_option maxRecDepth 65536 in
theorem w_c14 : (Jvm.Cond.code ({ cls := "java/util/ImmutableCollections", name := "listCopy", desc := "(Ljava/util/Collection;)Ljava/util/List;" } : Jvm.MethodName) jdk_56_method_3_code (2 : Nat) (Option.some (Jvm.ClassFile.FieldType.object "java/util/List"))).before args0 about1 = true := code_word (m := ⟨23, 1⟩) (meth := k23m1) (c := k23c1) (by decide +kernel) rfl rfl rfl (by decide +kernel)
set_option maxRecDepth 65536 in
theorem w_c15 : (Jvm.Cond.code ({ cls := "java/util/ArrayList", name := "isEmpty", desc := "()Z" } : Jvm.MethodName) jdk_38_method_9_code (1 : Nat) (Option.some Jvm.ClassFile.FieldType.boolean)).before args0 about1 = true := code_word (m := ⟨21, 3⟩) (meth := k21m3) (c := k21c3) (by decide +kernel) rfl rfl rfl (by decide +kernel)
set_option maxRecDepth 65536 in
theorem w_c16 : (Jvm.Cond.code ({ cls := "java/util/List", name := "of", desc := "()Ljava/util/List;" } : Jvm.MethodName) jdk_40_method_36_code (0 : Nat) (Option.some (Jvm.ClassFile.FieldType.object "java/util/List"))).before args0 about1 = true := code_word (m := ⟨17, 1⟩) (meth := k17m1) (c := k17c1) (by decide +kernel) rfl rfl rfl (by decide +kernel)
set_option maxRecDepth 65536 in
theorem w_c17 : (Jvm.Cond.code ({ cls := "java/util/ArrayList", name := "add", desc := "(Ljava/lang/Object;)Z" } : Jvm.MethodName) jdk_38_method_25_code (2 : Nat) (Option.some Jvm.ClassFile.FieldType.boolean)).before args0 about1 = true := code_word (m := ⟨21, 6⟩) (meth := k21m6) (c := k21c6) (by decide +kernel) rfl rfl rfl (by decide +kernel)
set_option maxRecDepth 65536 in
theorem w_c18 : (Jvm.Cond.code ({ cls := "java/util/ArrayList", name := "add", desc := "(Ljava/lang/Object;[Ljava/lang/Object;I)V" } : Jvm.MethodName) jdk_38_method_24_code (4 : Nat) (Option.none : Option Jvm.ClassFile.FieldType)).before args0 about1 = true := code_word (m := ⟨21, 5⟩) (meth := k21m5) (c := k21c5) (by decide +kernel) rfl rfl rfl (by decide +kernel)
set_option maxRecDepth 65536 in
theorem w_c19 : (Jvm.Cond.code ({ cls := "java/util/ArrayList", name := "grow", desc := "()[Ljava/lang/Object;" } : Jvm.MethodName) jdk_38_method_7_code (1 : Nat) (Option.some (Jvm.ClassFile.FieldType.array (Jvm.ClassFile.FieldType.object "java/lang/Object")))).before args0 about1 = true := code_word (m := ⟨21, 2⟩) (meth := k21m2) (c := k21c2) (by decide +kernel) rfl rfl rfl (by decide +kernel)
set_option maxRecDepth 65536 in
theorem w_c20 : (Jvm.Cond.code ({ cls := "java/util/ArrayList", name := "grow", desc := "(I)[Ljava/lang/Object;" } : Jvm.MethodName) jdk_38_method_6_code (4 : Nat) (Option.some (Jvm.ClassFile.FieldType.array (Jvm.ClassFile.FieldType.object "java/lang/Object")))).before args0 about1 = true := code_word (m := ⟨21, 1⟩) (meth := k21m1) (c := k21c1) (by decide +kernel) rfl rfl rfl (by decide +kernel)
set_option maxRecDepth 65536 in
theorem w_c21 : (Jvm.Cond.code ({ cls := "java/lang/Math", name := "max", desc := "(II)I" } : Jvm.MethodName) jdk_29_method_65_code (2 : Nat) (Option.some Jvm.ClassFile.FieldType.int)).before args0 about1 = true := code_word (m := ⟨28, 1⟩) (meth := k28m1) (c := k28c1) (by decide +kernel) rfl rfl rfl (by decide +kernel)
set_option maxRecDepth 65536 in
theorem w_c22 : (Jvm.Cond.code ({ cls := "com/example/tranche/tranche/journal/Journal", name := "nextLine", desc := "()I" } : Jvm.MethodName) prog_35_method_2_code (1 : Nat) (Option.some Jvm.ClassFile.FieldType.int)).before args0 about1 = true := code_word (m := ⟨22, 1⟩) (meth := k22m1) (c := k22c1) (by decide +kernel) rfl rfl rfl (by decide +kernel)
set_option maxRecDepth 65536 in
theorem w_c23 : (Jvm.Cond.code ({ cls := "java/util/ImmutableCollections$ListN", name := "size", desc := "()I" } : Jvm.MethodName) jdk_45_method_3_code (1 : Nat) (Option.some Jvm.ClassFile.FieldType.int)).before args0 about1 = true := code_word (m := ⟨27, 1⟩) (meth := k27m1) (c := k27c1) (by decide +kernel) rfl rfl rfl (by decide +kernel)
set_option maxRecDepth 65536 in
theorem w_c24 : (Jvm.Cond.code ({ cls := "java/util/ArrayList", name := "toArray", desc := "()[Ljava/lang/Object;" } : Jvm.MethodName) jdk_38_method_16_code (1 : Nat) (Option.some (Jvm.ClassFile.FieldType.array (Jvm.ClassFile.FieldType.object "java/lang/Object")))).before args0 about1 = true := code_word (m := ⟨21, 4⟩) (meth := k21m4) (c := k21c4) (by decide +kernel) rfl rfl rfl (by decide +kernel)
set_option maxRecDepth 65536 in
theorem w_c25 : (Jvm.Cond.code ({ cls := "java/util/Arrays", name := "copyOf", desc := "([Ljava/lang/Object;I)[Ljava/lang/Object;" } : Jvm.MethodName) jdk_65_method_119_code (2 : Nat) (Option.some (Jvm.ClassFile.FieldType.array (Jvm.ClassFile.FieldType.object "java/lang/Object")))).before args0 about1 = true := code_word (m := ⟨29, 1⟩) (meth := k29m1) (c := k29c1) (by decide +kernel) rfl rfl rfl (by decide +kernel)
set_option maxRecDepth 65536 in
theorem w_c26 : (Jvm.Cond.code ({ cls := "java/util/Arrays", name := "copyOf", desc := "([Ljava/lang/Object;ILjava/lang/Class;)[Ljava/lang/Object;" } : Jvm.MethodName) jdk_65_method_120_code (4 : Nat) (Option.some (Jvm.ClassFile.FieldType.array (Jvm.ClassFile.FieldType.object "java/lang/Object")))).before args0 about1 = true := code_word (m := ⟨29, 2⟩) (meth := k29m2) (c := k29c2) (by decide +kernel) rfl rfl rfl (by decide +kernel)
set_option maxRecDepth 65536 in
theorem w_c27 : (Jvm.Cond.code ({ cls := "java/lang/Math", name := "min", desc := "(II)I" } : Jvm.MethodName) jdk_29_method_69_code (2 : Nat) (Option.some Jvm.ClassFile.FieldType.int)).before args0 about1 = true := code_word (m := ⟨28, 2⟩) (meth := k28m2) (c := k28c2) (by decide +kernel) rfl rfl rfl (by decide +kernel)
set_option maxRecDepth 65536 in
theorem w_c28 : (Jvm.Cond.code ({ cls := "java/util/List", name := "of", desc := "([Ljava/lang/Object;)Ljava/util/List;" } : Jvm.MethodName) jdk_40_method_47_code (2 : Nat) (Option.some (Jvm.ClassFile.FieldType.object "java/util/List"))).before args0 about1 = true := code_word (m := ⟨17, 2⟩) (meth := k17m2) (c := k17c2) (by decide +kernel) rfl rfl rfl (by decide +kernel)
set_option maxRecDepth 65536 in
theorem w_c29 : (Jvm.Cond.code ({ cls := "java/util/ImmutableCollections", name := "listFromArray", desc := "([Ljava/lang/Object;)Ljava/util/List;" } : Jvm.MethodName) jdk_56_method_4_code (3 : Nat) (Option.some (Jvm.ClassFile.FieldType.object "java/util/List"))).before args0 about1 = true := code_word (m := ⟨23, 2⟩) (meth := k23m2) (c := k23c2) (by decide +kernel) rfl rfl rfl (by decide +kernel)
set_option maxRecDepth 65536 in
theorem w_c30 : (Jvm.Cond.code ({ cls := "java/util/Objects", name := "requireNonNull", desc := "(Ljava/lang/Object;)Ljava/lang/Object;" } : Jvm.MethodName) jdk_31_method_10_code (1 : Nat) (Option.some (Jvm.ClassFile.FieldType.object "java/lang/Object"))).before args0 about1 = true := code_word (m := ⟨31, 1⟩) (meth := k31m1) (c := k31c1) (by decide +kernel) rfl rfl rfl (by decide +kernel)
set_option maxRecDepth 65536 in
theorem w_c31 : (Jvm.Cond.code ({ cls := "java/util/ImmutableCollections$ListN", name := "<init>", desc := "([Ljava/lang/Object;Z)V" } : Jvm.MethodName) jdk_45_method_1_code (3 : Nat) (Option.none : Option Jvm.ClassFile.FieldType)).before args0 about1 = true := code_word (m := ⟨27, 0⟩) (meth := k27m0) (c := k27c0) (by decide +kernel) rfl rfl rfl (by decide +kernel)
set_option maxRecDepth 65536 in
theorem w_c32 : (Jvm.Cond.code ({ cls := "java/util/ImmutableCollections$AbstractImmutableList", name := "<init>", desc := "()V" } : Jvm.MethodName) jdk_46_method_1_code (1 : Nat) (Option.none : Option Jvm.ClassFile.FieldType)).before args0 about1 = true := code_word (m := ⟨25, 0⟩) (meth := k25m0) (c := k25c0) (by decide +kernel) rfl rfl rfl (by decide +kernel)
set_option maxRecDepth 65536 in
theorem w_c33 : (Jvm.Cond.code ({ cls := "java/util/ImmutableCollections$AbstractImmutableCollection", name := "<init>", desc := "()V" } : Jvm.MethodName) jdk_47_method_1_code (1 : Nat) (Option.none : Option Jvm.ClassFile.FieldType)).before args0 about1 = true := code_word (m := ⟨24, 0⟩) (meth := k24m0) (c := k24c0) (by decide +kernel) rfl rfl rfl (by decide +kernel)
set_option maxRecDepth 65536 in
theorem w_c34 : (Jvm.Cond.code ({ cls := "java/util/ImmutableCollections$List12", name := "<init>", desc := "(Ljava/lang/Object;Ljava/lang/Object;)V" } : Jvm.MethodName) jdk_44_method_2_code (3 : Nat) (Option.none : Option Jvm.ClassFile.FieldType)).before args0 about1 = true := code_word (m := ⟨26, 1⟩) (meth := k26m1) (c := k26c1) (by decide +kernel) rfl rfl rfl (by decide +kernel)
set_option maxRecDepth 65536 in
theorem w_c35 : (Jvm.Cond.code ({ cls := "java/util/ImmutableCollections$List12", name := "size", desc := "()I" } : Jvm.MethodName) jdk_44_method_3_code (1 : Nat) (Option.some Jvm.ClassFile.FieldType.int)).before args0 about1 = true := code_word (m := ⟨26, 2⟩) (meth := k26m2) (c := k26c2) (by decide +kernel) rfl rfl rfl (by decide +kernel)
set_option maxRecDepth 65536 in
theorem w_c36 : (Jvm.Cond.code ({ cls := "java/util/ImmutableCollections$List12", name := "<init>", desc := "(Ljava/lang/Object;)V" } : Jvm.MethodName) jdk_44_method_1_code (2 : Nat) (Option.none : Option Jvm.ClassFile.FieldType)).before args0 about1 = true := code_word (m := ⟨26, 0⟩) (meth := k26m0) (c := k26c0) (by decide +kernel) rfl rfl rfl (by decide +kernel)
def codes1 : List Jvm.Cond := [Jvm.Cond.code x code maxLocals ret, Jvm.Cond.code ({ cls := "java/lang/String", name := "valueOf", desc := "(C)Ljava/lang/String;" } : Jvm.MethodName) jdk_42_method_139_code (1 : Nat) (Option.some (Jvm.ClassFile.FieldType.object "java/lang/String")), Jvm.Cond.code ({ cls := "java/lang/StringLatin1", name := "canEncode", desc := "(C)Z" } : Jvm.MethodName) jdk_43_method_3_code (1 : Nat) (Option.some Jvm.ClassFile.FieldType.boolean), Jvm.Cond.code ({ cls := "java/lang/StringLatin1", name := "toBytes", desc := "(C)[B" } : Jvm.MethodName) jdk_43_method_46_code (1 : Nat) (Option.some (Jvm.ClassFile.FieldType.array Jvm.ClassFile.FieldType.byte)), Jvm.Cond.code ({ cls := "java/lang/String", name := "<init>", desc := "([BB)V" } : Jvm.MethodName) jdk_42_method_151_code (3 : Nat) (Option.none : Option Jvm.ClassFile.FieldType), Jvm.Cond.code ({ cls := "java/lang/Object", name := "<init>", desc := "()V" } : Jvm.MethodName) object_method_1_code (1 : Nat) (Option.none : Option Jvm.ClassFile.FieldType), Jvm.Cond.code ({ cls := "com/example/tranche/tranche/journal/Entry", name := "<init>", desc := "(ILjava/time/LocalDate;Ljava/time/LocalDate;)V" } : Jvm.MethodName) prog_28_method_1_code (4 : Nat) (Option.none : Option Jvm.ClassFile.FieldType), Jvm.Cond.code ({ cls := "java/lang/Record", name := "<init>", desc := "()V" } : Jvm.MethodName) jdk_30_method_1_code (1 : Nat) (Option.none : Option Jvm.ClassFile.FieldType), Jvm.Cond.code ({ cls := "com/example/tranche/tranche/journal/DefaultRateChange", name := "<init>", desc := "(Lcom/example/tranche/tranche/journal/Entry;Z)V" } : Jvm.MethodName) prog_27_method_1_code (3 : Nat) (Option.none : Option Jvm.ClassFile.FieldType), Jvm.Cond.code ({ cls := "java/util/ArrayList", name := "<init>", desc := "()V" } : Jvm.MethodName) jdk_38_method_2_code (1 : Nat) (Option.none : Option Jvm.ClassFile.FieldType), Jvm.Cond.code ({ cls := "java/util/AbstractList", name := "<init>", desc := "()V" } : Jvm.MethodName) jdk_39_method_1_code (1 : Nat) (Option.none : Option Jvm.ClassFile.FieldType), Jvm.Cond.code ({ cls := "java/util/AbstractCollection", name := "<init>", desc := "()V" } : Jvm.MethodName) jdk_22_method_1_code (1 : Nat) (Option.none : Option Jvm.ClassFile.FieldType), Jvm.Cond.code ({ cls := "com/example/tranche/tranche/journal/Journal", name := "<init>", desc := "(Ljava/lang/String;Ljava/util/List;Z)V" } : Jvm.MethodName) prog_35_method_1_code (4 : Nat) (Option.none : Option Jvm.ClassFile.FieldType), Jvm.Cond.code ({ cls := "java/util/List", name := "copyOf", desc := "(Ljava/util/Collection;)Ljava/util/List;" } : Jvm.MethodName) jdk_40_method_48_code (1 : Nat) (Option.some (Jvm.ClassFile.FieldType.object "java/util/List")), Jvm.Cond.code ({ cls := "java/util/ImmutableCollections", name := "listCopy", desc := "(Ljava/util/Collection;)Ljava/util/List;" } : Jvm.MethodName) jdk_56_method_3_code (2 : Nat) (Option.some (Jvm.ClassFile.FieldType.object "java/util/List")), Jvm.Cond.code ({ cls := "java/util/ArrayList", name := "isEmpty", desc := "()Z" } : Jvm.MethodName) jdk_38_method_9_code (1 : Nat) (Option.some Jvm.ClassFile.FieldType.boolean), Jvm.Cond.code ({ cls := "java/util/List", name := "of", desc := "()Ljava/util/List;" } : Jvm.MethodName) jdk_40_method_36_code (0 : Nat) (Option.some (Jvm.ClassFile.FieldType.object "java/util/List")), Jvm.Cond.code ({ cls := "java/util/ArrayList", name := "add", desc := "(Ljava/lang/Object;)Z" } : Jvm.MethodName) jdk_38_method_25_code (2 : Nat) (Option.some Jvm.ClassFile.FieldType.boolean), Jvm.Cond.code ({ cls := "java/util/ArrayList", name := "add", desc := "(Ljava/lang/Object;[Ljava/lang/Object;I)V" } : Jvm.MethodName) jdk_38_method_24_code (4 : Nat) (Option.none : Option Jvm.ClassFile.FieldType), Jvm.Cond.code ({ cls := "java/util/ArrayList", name := "grow", desc := "()[Ljava/lang/Object;" } : Jvm.MethodName) jdk_38_method_7_code (1 : Nat) (Option.some (Jvm.ClassFile.FieldType.array (Jvm.ClassFile.FieldType.object "java/lang/Object"))), Jvm.Cond.code ({ cls := "java/util/ArrayList", name := "grow", desc := "(I)[Ljava/lang/Object;" } : Jvm.MethodName) jdk_38_method_6_code (4 : Nat) (Option.some (Jvm.ClassFile.FieldType.array (Jvm.ClassFile.FieldType.object "java/lang/Object"))), Jvm.Cond.code ({ cls := "java/lang/Math", name := "max", desc := "(II)I" } : Jvm.MethodName) jdk_29_method_65_code (2 : Nat) (Option.some Jvm.ClassFile.FieldType.int), Jvm.Cond.code ({ cls := "com/example/tranche/tranche/journal/Journal", name := "nextLine", desc := "()I" } : Jvm.MethodName) prog_35_method_2_code (1 : Nat) (Option.some Jvm.ClassFile.FieldType.int), Jvm.Cond.code ({ cls := "java/util/ImmutableCollections$ListN", name := "size", desc := "()I" } : Jvm.MethodName) jdk_45_method_3_code (1 : Nat) (Option.some Jvm.ClassFile.FieldType.int), Jvm.Cond.code ({ cls := "java/util/ArrayList", name := "toArray", desc := "()[Ljava/lang/Object;" } : Jvm.MethodName) jdk_38_method_16_code (1 : Nat) (Option.some (Jvm.ClassFile.FieldType.array (Jvm.ClassFile.FieldType.object "java/lang/Object"))), Jvm.Cond.code ({ cls := "java/util/Arrays", name := "copyOf", desc := "([Ljava/lang/Object;I)[Ljava/lang/Object;" } : Jvm.MethodName) jdk_65_method_119_code (2 : Nat) (Option.some (Jvm.ClassFile.FieldType.array (Jvm.ClassFile.FieldType.object "java/lang/Object"))), Jvm.Cond.code ({ cls := "java/util/Arrays", name := "copyOf", desc := "([Ljava/lang/Object;ILjava/lang/Class;)[Ljava/lang/Object;" } : Jvm.MethodName) jdk_65_method_120_code (4 : Nat) (Option.some (Jvm.ClassFile.FieldType.array (Jvm.ClassFile.FieldType.object "java/lang/Object"))), Jvm.Cond.code ({ cls := "java/lang/Math", name := "min", desc := "(II)I" } : Jvm.MethodName) jdk_29_method_69_code (2 : Nat) (Option.some Jvm.ClassFile.FieldType.int), Jvm.Cond.code ({ cls := "java/util/List", name := "of", desc := "([Ljava/lang/Object;)Ljava/util/List;" } : Jvm.MethodName) jdk_40_method_47_code (2 : Nat) (Option.some (Jvm.ClassFile.FieldType.object "java/util/List")), Jvm.Cond.code ({ cls := "java/util/ImmutableCollections", name := "listFromArray", desc := "([Ljava/lang/Object;)Ljava/util/List;" } : Jvm.MethodName) jdk_56_method_4_code (3 : Nat) (Option.some (Jvm.ClassFile.FieldType.object "java/util/List")), Jvm.Cond.code ({ cls := "java/util/Objects", name := "requireNonNull", desc := "(Ljava/lang/Object;)Ljava/lang/Object;" } : Jvm.MethodName) jdk_31_method_10_code (1 : Nat) (Option.some (Jvm.ClassFile.FieldType.object "java/lang/Object")), Jvm.Cond.code ({ cls := "java/util/ImmutableCollections$ListN", name := "<init>", desc := "([Ljava/lang/Object;Z)V" } : Jvm.MethodName) jdk_45_method_1_code (3 : Nat) (Option.none : Option Jvm.ClassFile.FieldType), Jvm.Cond.code ({ cls := "java/util/ImmutableCollections$AbstractImmutableList", name := "<init>", desc := "()V" } : Jvm.MethodName) jdk_46_method_1_code (1 : Nat) (Option.none : Option Jvm.ClassFile.FieldType), Jvm.Cond.code ({ cls := "java/util/ImmutableCollections$AbstractImmutableCollection", name := "<init>", desc := "()V" } : Jvm.MethodName) jdk_47_method_1_code (1 : Nat) (Option.none : Option Jvm.ClassFile.FieldType), Jvm.Cond.code ({ cls := "java/util/ImmutableCollections$List12", name := "<init>", desc := "(Ljava/lang/Object;Ljava/lang/Object;)V" } : Jvm.MethodName) jdk_44_method_2_code (3 : Nat) (Option.none : Option Jvm.ClassFile.FieldType), Jvm.Cond.code ({ cls := "java/util/ImmutableCollections$List12", name := "size", desc := "()I" } : Jvm.MethodName) jdk_44_method_3_code (1 : Nat) (Option.some Jvm.ClassFile.FieldType.int), Jvm.Cond.code ({ cls := "java/util/ImmutableCollections$List12", name := "<init>", desc := "(Ljava/lang/Object;)V" } : Jvm.MethodName) jdk_44_method_1_code (2 : Nat) (Option.none : Option Jvm.ClassFile.FieldType)]
set_option maxRecDepth 65536 in
theorem codes_eq : words1.filter isCode = codes1 := rfl
theorem w_codes : ∀ c ∈ words1.filter isCode, c.before args0 about1 = true := by
  rw [codes_eq]
  intro c hc
  simp only [codes1, List.mem_cons, List.not_mem_nil, or_false] at hc
  rcases hc with rfl | rfl | rfl | rfl | rfl | rfl | rfl | rfl | rfl | rfl | rfl | rfl | rfl | rfl | rfl | rfl | rfl | rfl | rfl | rfl | rfl | rfl | rfl | rfl | rfl | rfl | rfl | rfl | rfl | rfl | rfl | rfl | rfl | rfl | rfl | rfl | rfl
  · exact w_c0
  · exact w_c1
  · exact w_c2
  · exact w_c3
  · exact w_c4
  · exact w_c5
  · exact w_c6
  · exact w_c7
  · exact w_c8
  · exact w_c9
  · exact w_c10
  · exact w_c11
  · exact w_c12
  · exact w_c13
  · exact w_c14
  · exact w_c15
  · exact w_c16
  · exact w_c17
  · exact w_c18
  · exact w_c19
  · exact w_c20
  · exact w_c21
  · exact w_c22
  · exact w_c23
  · exact w_c24
  · exact w_c25
  · exact w_c26
  · exact w_c27
  · exact w_c28
  · exact w_c29
  · exact w_c30
  · exact w_c31
  · exact w_c32
  · exact w_c33
  · exact w_c34
  · exact w_c35
  · exact w_c36
set_option maxRecDepth 65536 in
theorem w_t1 : (words1.take 24).all (fun c => isCode c || c.before args0 about1) = true := by decide +kernel
set_option maxRecDepth 65536 in
theorem w_t2 : ((words1.drop 24).take 24).all (fun c => isCode c || c.before args0 about1) = true := by decide +kernel
set_option maxRecDepth 65536 in
theorem w_t3 : (((words1.drop 24).drop 24).take 24).all (fun c => isCode c || c.before args0 about1) = true := by decide +kernel
set_option maxRecDepth 65536 in
theorem w_t4 : ((((words1.drop 24).drop 24).drop 24).take 24).all (fun c => isCode c || c.before args0 about1) = true := by decide +kernel
set_option maxRecDepth 65536 in
theorem w_t5 : (((((words1.drop 24).drop 24).drop 24).drop 24).take 24).all (fun c => isCode c || c.before args0 about1) = true := by decide +kernel
set_option maxRecDepth 65536 in
theorem w_t6 : ((((((words1.drop 24).drop 24).drop 24).drop 24).drop 24).take 24).all (fun c => isCode c || c.before args0 about1) = true := by decide +kernel
set_option maxRecDepth 65536 in
theorem w_t7 : (((((((words1.drop 24).drop 24).drop 24).drop 24).drop 24).drop 24).take 24).all (fun c => isCode c || c.before args0 about1) = true := by decide +kernel
set_option maxRecDepth 65536 in
theorem w_t8 : ((((((((words1.drop 24).drop 24).drop 24).drop 24).drop 24).drop 24).drop 24).take 24).all (fun c => isCode c || c.before args0 about1) = true := by decide +kernel
set_option maxRecDepth 65536 in
theorem w_t9 : (((((((((words1.drop 24).drop 24).drop 24).drop 24).drop 24).drop 24).drop 24).drop 24).take 24).all (fun c => isCode c || c.before args0 about1) = true := by decide +kernel
set_option maxRecDepth 65536 in
theorem w_t10 : ((((((((((words1.drop 24).drop 24).drop 24).drop 24).drop 24).drop 24).drop 24).drop 24).drop 24).take 24).all (fun c => isCode c || c.before args0 about1) = true := by decide +kernel
set_option maxRecDepth 65536 in
theorem w_t11 : ((((((((((words1.drop 24).drop 24).drop 24).drop 24).drop 24).drop 24).drop 24).drop 24).drop 24).drop 24).all (fun c => isCode c || c.before args0 about1) = true := by decide +kernel
theorem w_tables : (allAtoms (Jvm.Cond.code x code maxLocals ret :: tables_1)).before args0 about1 = true := by
  rw [allAtoms_all]
  show words1.all (fun c => c.before args0 about1) = true
  refine all_split ?_ w_codes
  rw [← List.take_append_drop 24 words1, List.all_append, w_t1, ← List.take_append_drop 24 (words1.drop 24), List.all_append, w_t2, ← List.take_append_drop 24 ((words1.drop 24).drop 24), List.all_append, w_t3, ← List.take_append_drop 24 (((words1.drop 24).drop 24).drop 24), List.all_append, w_t4, ← List.take_append_drop 24 ((((words1.drop 24).drop 24).drop 24).drop 24), List.all_append, w_t5, ← List.take_append_drop 24 (((((words1.drop 24).drop 24).drop 24).drop 24).drop 24), List.all_append, w_t6, ← List.take_append_drop 24 ((((((words1.drop 24).drop 24).drop 24).drop 24).drop 24).drop 24), List.all_append, w_t7, ← List.take_append_drop 24 (((((((words1.drop 24).drop 24).drop 24).drop 24).drop 24).drop 24).drop 24), List.all_append, w_t8, ← List.take_append_drop 24 ((((((((words1.drop 24).drop 24).drop 24).drop 24).drop 24).drop 24).drop 24).drop 24), List.all_append, w_t9, ← List.take_append_drop 24 (((((((((words1.drop 24).drop 24).drop 24).drop 24).drop 24).drop 24).drop 24).drop 24).drop 24), List.all_append, w_t10, w_t11]
  rfl
set_option maxRecDepth 65536 in
theorem w_rest : rest_1_c.before args0 about1 = true := by decide +kernel
set_option maxRecDepth 65536 in
theorem w_case : (Jvm.Cond.and given_1 narrow_1).before args0 about1 = true := by decide +kernel
theorem w_applies : (headSpec (Jvm.Cond.code x code maxLocals ret :: tables_1) room_1).applies x e0.platform about1 = true :=
  (Spec.applies_iff w_frames).mpr ⟨w_running, w_runnable, w_alone, w_named, w_hears, w_ripe, w_room, w_tables⟩
theorem atStart : AtStart classFile x code maxLocals ret World_1 tables_1 room_1 Calls_1 rest_1 Pre_1 launch0 p0 e0 about1 theMethod args0 below0 :=
  ⟨lists_1, trivial, launch0.admits_env _ _ _, launch0.least_env, fairChoices_fair.cas, fairChoices_fair.clock, w_frames, w_args, w_heap, w_applies, ⟨⟨39, k39, 4, by decide +kernel, rfl, rfl, _, rfl, rfl⟩, trivial⟩, w_rest, w_case⟩
end start1
theorem witness_1 : WitnessClaimed_1 := ⟨start1.p0, start1.e0, start1.about1, start1.theMethod, start1.args0, start1.below0, start1.atStart⟩
end Jvm.Pilot.@@N@@
