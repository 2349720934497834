import JvmDerived
import JvmDerived.Pilot.@@N@@Statement
import JvmDerived.Pilot.@@N@@Code
set_option linter.unusedVariables false
set_option linter.unusedSimpArgs false
namespace Jvm.RoadKit
open Sem ClassFile Op Lib Jvm.Stand Jvm.Free Jvm.LawKit
section Own
variable {p : Program} {l : Launch} {e : Env} {R : Room} {s : State} {m : MethodId} {args : Array Value} {below : List Frame} {meth : Method} {c : Code} {T : State} {locs : List Loc} {cells slots : Nat} {Z : State} {a0 : Array Value} {h : Heap}
/-- from T with the frame g on top the run comes back with what Q says -/
def Go (p : Program) (e : Env) (below : List Frame) (Fin' : Outcome → State → Prop) (T : State) (g : JFrame) : Prop :=
  ∃ s₂ o, Steps p.tables e below (T.setTop g) s₂ ∧ s₂.status = .running ∧ Ended s₂ below o ∧ Fin' o s₂
/-- how a body ends -/
def Fn (s : State) (RC RS : Nat) (Q : Option Value → Heap → List Loc → Prop) (o : Outcome) (t : State) : Prop := ∃ v L, o = .returned v ∧ Q v t.heap L ∧ FrameEnd s o t L RC RS
/-- what stands fast through a body's walk -/
def Cx (p : Program) (s : State) (m : MethodId) (meth : Method) (c : Code) (Z : State) (own nm : String) (bytes : ByteArray) (maxL : Nat) (ret : Option FieldType) : Prop :=
  p.tables.exec = Jvm.exec ∧ Z.Warmed39 s.vm ∧ s.vm.findClass own = some m.cls ∧ c.code = bytes ∧ c.maxLocals = maxL ∧ meth.sig.returnType = ret ∧ meth.name = nm ∧ meth.locks = false
variable {RC RS : Nat} {Q : Option Value → Heap → List Loc → Prop} {Fin' : Outcome → State → Prop} {own nm : String} {bytes : ByteArray} {maxL : Nat} {ret : Option FieldType} {pc pc' : Nat} {Ls Ls' : Array Slot} {S : List Value}
theorem Go.via {T' : State} {g g' : JFrame} (G : Go p e below Fin' T' g') (k : ∀ t, Steps p.tables e below (T'.setTop g') t → Steps p.tables e below (T.setTop g) t) : Go p e below Fin' T g := by
  obtain ⟨s₂, o, st, r⟩ := G; exact ⟨s₂, o, k _ st, r⟩
theorem Go.cast {g g' : JFrame} (q : g = g') (G : Go p e below Fin' T g') : Go p e below Fin' T g := q ▸ G
/-- a body's contract -/
def Met1 (l : Launch) (Z : State) (y : MethodName) (bytes : ByteArray) (maxL : Nat) (ret : Option FieldType) (rm : Room) (as' : Array Value) (h0 : Heap) (Q : Option Value → Heap → List Loc → Prop) : Prop :=
  ∀ ws : List Jvm.Cond, MetFree l y (head1 (Jvm.Cond.code y bytes maxL ret :: ws) rm) (fun a U => a = as' ∧ Z.Warmed39 U.vm ∧ U.heap = h0) (fun _ _ _ _ _ => True) (fun _ U o U' => ∃ v L, o = .returned v ∧ Q v U'.heap L ∧ FrameEnd U o U' L rm.cells rm.slots)
theorem Met1.of_body {y : MethodName} {rm : Room} {as' : Array Value} {h0 : Heap} (hp : plainFor y = true) (ef : ∀ m, entryFrame m as' maxL = mkF m 0 Ls [])
    (body : ∀ {p : Program} {e : Env} {s : State} {m : MethodId} {below : List Frame} {meth : Method} {c : Code} {T : State}, Cx p s m meth c Z y.cls y.name bytes maxL ret → Stand p l e rm s m as' below meth c T [] 0 0 → T.heap = h0 → Go p e below (Fn s rm.cells rm.slots Q) T (mkF m 0 Ls [])) :
    Met1 l Z y bytes maxL ret rm as' h0 Q := by
  intro ws
  refine MetFree.of_bodySF hp hisR ?_
  intro p e s m args below meth c s₁ Bd hml0 hP hK
  obtain ⟨rfl, hZ, hh⟩ := hP
  have X0 : Stand p l e rm s m args below meth c s₁ [] 0 0 := Stand.of_body Bd
  have hlk : meth.locks = false := BodyLoose.notSynchronized Bd
  obtain ⟨s₂, o, st, r1, r2, r3⟩ := body (p := p) (e := e) (s := s) (m := m) (below := below) (meth := meth) (c := c) (T := s₁) ⟨Bd.exec, hZ, findClass_of_methodNamed Bd.named, Bd.bytes, hml0, Bd.returns, (name_of_methodNamed Bd.named Bd.method).1, hlk⟩ X0 (by rw [← hh, Bd.state]; rfl)
  exact ⟨s₂, o, castTop (ef m) st, r1, r2, r3⟩
/-- a contract may say less -/
theorem Met1.weak {y : MethodName} {rm : Room} {as' : Array Value} {h0 : Heap} {Q' : Option Value → Heap → List Loc → Prop} (M : Met1 l Z y bytes maxL ret rm as' h0 Q) (q : ∀ v h L, Q v h L → Q' v h L) : Met1 l Z y bytes maxL ret rm as' h0 Q' := by
  intro ws p e ha hc hk s m args below hf happ hP hK
  obtain ⟨n, o, h1, h2, h3, v, L, h4, h5, h6⟩ := M ws p e ha hc hk s m args below hf happ hP hK
  exact ⟨n, o, h1, h2, h3, v, L, h4, q _ _ _ h5, h6⟩

/-! plain steps -/
theorem Go.aloadN (C : Cx p s m meth c Z own nm bytes maxL ret) (X : Stand p l e R s m args below meth c T locs cells slots) {k : Fin 4} {v : Value} (hd : decode bytes pc = .ok (.aload_n k, 1)) (hl : Ls[k.val]? = some (.val v)) (hv : v.isRef = true) (hp : pc + 1 = pc') (G : Go p e below Fin' T (mkF m pc' Ls (v :: S))) : Go p e below Fin' T (mkF m pc Ls S) := by
  subst hp; exact G.via fun _ k => XS.aloadN X.here C.1 rfl (hb C.2.2.2.1 hd) hl hv k
theorem Go.aload (C : Cx p s m meth c Z own nm bytes maxL ret) (X : Stand p l e R s m args below meth c T locs cells slots) {k : Nat} {v : Value} (hd : decode bytes pc = .ok (.aload k, 2)) (hl : Ls[k]? = some (.val v)) (hv : v.isRef = true) (hp : pc + 2 = pc') (G : Go p e below Fin' T (mkF m pc' Ls (v :: S))) : Go p e below Fin' T (mkF m pc Ls S) := by
  subst hp; exact G.via fun _ k => XS.aload X.here C.1 rfl (hb C.2.2.2.1 hd) hl hv k
theorem Go.iloadN (C : Cx p s m meth c Z own nm bytes maxL ret) (X : Stand p l e R s m args below meth c T locs cells slots) {k : Fin 4} {v : Int32} (hd : decode bytes pc = .ok (.iload_n k, 1)) (hl : Ls[k.val]? = some (.val (.int v))) (hp : pc + 1 = pc') (G : Go p e below Fin' T (mkF m pc' Ls (.int v :: S))) : Go p e below Fin' T (mkF m pc Ls S) := by
  subst hp; exact G.via fun _ k => XS.iloadN X.here C.1 rfl (hb C.2.2.2.1 hd) hl k
theorem Go.iload (C : Cx p s m meth c Z own nm bytes maxL ret) (X : Stand p l e R s m args below meth c T locs cells slots) {k : Nat} {v : Int32} (hd : decode bytes pc = .ok (.iload k, 2)) (hl : Ls[k]? = some (.val (.int v))) (hp : pc + 2 = pc') (G : Go p e below Fin' T (mkF m pc' Ls (.int v :: S))) : Go p e below Fin' T (mkF m pc Ls S) := by
  subst hp; exact G.via fun _ k => XS.iload X.here C.1 rfl (hb C.2.2.2.1 hd) hl k
theorem Go.istoreN (C : Cx p s m meth c Z own nm bytes maxL ret) (X : Stand p l e R s m args below meth c T locs cells slots) {k : Fin 4} {v : Int32} (hd : decode bytes pc = .ok (.istore_n k, 1)) (hl : storeLocals Ls k.val (.int v) = some Ls') (hp : pc + 1 = pc') (G : Go p e below Fin' T (mkF m pc' Ls' S)) : Go p e below Fin' T (mkF m pc Ls (.int v :: S)) := by
  subst hp; exact G.via fun _ k => XS.istoreN X.here C.1 rfl (hb C.2.2.2.1 hd) rfl hl k
theorem Go.istore (C : Cx p s m meth c Z own nm bytes maxL ret) (X : Stand p l e R s m args below meth c T locs cells slots) {k : Nat} {v : Int32} (hd : decode bytes pc = .ok (.istore k, 2)) (hl : storeLocals Ls k (.int v) = some Ls') (hp : pc + 2 = pc') (G : Go p e below Fin' T (mkF m pc' Ls' S)) : Go p e below Fin' T (mkF m pc Ls (.int v :: S)) := by
  subst hp; exact G.via fun _ k => XS.istore X.here C.1 rfl (hb C.2.2.2.1 hd) rfl hl k
theorem Go.lloadN (C : Cx p s m meth c Z own nm bytes maxL ret) (X : Stand p l e R s m args below meth c T locs cells slots) {k : Fin 4} {v : Int64} (hd : decode bytes pc = .ok (.lload_n k, 1)) (hl : Ls[k.val]? = some (.val (.long v))) (hp : pc + 1 = pc') (G : Go p e below Fin' T (mkF m pc' Ls (.long v :: S))) : Go p e below Fin' T (mkF m pc Ls S) := by
  subst hp; exact G.via fun _ k => XS.lloadN X.here C.1 rfl (hb C.2.2.2.1 hd) hl k
theorem Go.lload (C : Cx p s m meth c Z own nm bytes maxL ret) (X : Stand p l e R s m args below meth c T locs cells slots) {k : Nat} {v : Int64} (hd : decode bytes pc = .ok (.lload k, 2)) (hl : Ls[k]? = some (.val (.long v))) (hp : pc + 2 = pc') (G : Go p e below Fin' T (mkF m pc' Ls (.long v :: S))) : Go p e below Fin' T (mkF m pc Ls S) := by
  subst hp; exact G.via fun _ k => XS.lload X.here C.1 rfl (hb C.2.2.2.1 hd) hl k
theorem Go.lstoreN (C : Cx p s m meth c Z own nm bytes maxL ret) (X : Stand p l e R s m args below meth c T locs cells slots) {k : Fin 4} {v : Int64} (hd : decode bytes pc = .ok (.lstore_n k, 1)) (hl : storeLocals Ls k.val (.long v) = some Ls') (hp : pc + 1 = pc') (G : Go p e below Fin' T (mkF m pc' Ls' S)) : Go p e below Fin' T (mkF m pc Ls (.long v :: S)) := by
  subst hp; exact G.via fun _ k => XS.lstoreN X.here C.1 rfl (hb C.2.2.2.1 hd) rfl hl k
theorem Go.lstore (C : Cx p s m meth c Z own nm bytes maxL ret) (X : Stand p l e R s m args below meth c T locs cells slots) {k : Nat} {v : Int64} (hd : decode bytes pc = .ok (.lstore k, 2)) (hl : storeLocals Ls k (.long v) = some Ls') (hp : pc + 2 = pc') (G : Go p e below Fin' T (mkF m pc' Ls' S)) : Go p e below Fin' T (mkF m pc Ls (.long v :: S)) := by
  subst hp; exact G.via fun _ k => XS.lstore X.here C.1 rfl (hb C.2.2.2.1 hd) rfl hl k
theorem Go.astoreN (C : Cx p s m meth c Z own nm bytes maxL ret) (X : Stand p l e R s m args below meth c T locs cells slots) {k : Fin 4} {v : Value} (hd : decode bytes pc = .ok (.astore_n k, 1)) (hv : v.isRef = true) (hl : storeLocals Ls k.val v = some Ls') (hp : pc + 1 = pc') (G : Go p e below Fin' T (mkF m pc' Ls' S)) : Go p e below Fin' T (mkF m pc Ls (v :: S)) := by
  subst hp; exact G.via fun _ k => XS.astoreN X.here C.1 rfl (hb C.2.2.2.1 hd) rfl hv hl k
theorem Go.astore (C : Cx p s m meth c Z own nm bytes maxL ret) (X : Stand p l e R s m args below meth c T locs cells slots) {k : Nat} {v : Value} (hd : decode bytes pc = .ok (.astore k, 2)) (hv : v.isRef = true) (hl : storeLocals Ls k v = some Ls') (hp : pc + 2 = pc') (G : Go p e below Fin' T (mkF m pc' Ls' S)) : Go p e below Fin' T (mkF m pc Ls (v :: S)) := by
  subst hp; exact G.via fun _ k => XS.astore X.here C.1 rfl (hb C.2.2.2.1 hd) rfl hv hl k
theorem Go.iconst (C : Cx p s m meth c Z own nm bytes maxL ret) (X : Stand p l e R s m args below meth c T locs cells slots) {i : Int} {z : Int32} (hd : decode bytes pc = .ok (.iconst i, 1)) (hz : Int32.ofInt i = z) (hp : pc + 1 = pc') (G : Go p e below Fin' T (mkF m pc' Ls (.int z :: S))) : Go p e below Fin' T (mkF m pc Ls S) := by
  subst hp; exact G.via fun _ k => XT.iconstV X.here C.1 rfl z (hb C.2.2.2.1 hd) hz k
theorem Go.bipush (C : Cx p s m meth c Z own nm bytes maxL ret) (X : Stand p l e R s m args below meth c T locs cells slots) {i : Int} {z : Int32} (hd : decode bytes pc = .ok (.bipush i, 2)) (hz : (Int8.ofInt i).toInt32 = z) (hp : pc + 2 = pc') (G : Go p e below Fin' T (mkF m pc' Ls (.int z :: S))) : Go p e below Fin' T (mkF m pc Ls S) := by
  subst hp; exact G.via fun _ k => XT.bipushV X.here C.1 rfl z (hb C.2.2.2.1 hd) hz k
theorem Go.sipush (C : Cx p s m meth c Z own nm bytes maxL ret) (X : Stand p l e R s m args below meth c T locs cells slots) {i : Int} {z : Int32} (hd : decode bytes pc = .ok (.sipush i, 3)) (hz : (Int16.ofInt i).toInt32 = z) (hp : pc + 3 = pc') (G : Go p e below Fin' T (mkF m pc' Ls (.int z :: S))) : Go p e below Fin' T (mkF m pc Ls S) := by
  subst hp; exact G.via fun _ k => XT.sipushV X.here C.1 rfl z (hb C.2.2.2.1 hd) hz k
theorem Go.lconst (C : Cx p s m meth c Z own nm bytes maxL ret) (X : Stand p l e R s m args below meth c T locs cells slots) {i : Fin 2} {z : Int64} (hd : decode bytes pc = .ok (.lconst i, 1)) (hz : Int64.ofNat i = z) (hp : pc + 1 = pc') (G : Go p e below Fin' T (mkF m pc' Ls (.long z :: S))) : Go p e below Fin' T (mkF m pc Ls S) := by
  subst hp; exact G.via fun _ k => XT.lconstV X.here C.1 rfl z (hb C.2.2.2.1 hd) hz k
theorem Go.aconstNull (C : Cx p s m meth c Z own nm bytes maxL ret) (X : Stand p l e R s m args below meth c T locs cells slots)  (hd : decode bytes pc = .ok (.aconst_null, 1))  (hp : pc + 1 = pc') (G : Go p e below Fin' T (mkF m pc' Ls (.null :: S))) : Go p e below Fin' T (mkF m pc Ls S) := by
  subst hp; exact G.via fun _ k => XS.aconstNull X.here C.1 rfl (hb C.2.2.2.1 hd) k
theorem Go.ldcI (C : Cx p s m meth c Z own nm bytes maxL ret) (X : Stand p l e R s m args below meth c T locs cells slots) {i : Nat} {z : Int32} (hd : decode bytes pc = .ok (.ldc i, 2)) (w : (Cond.constant own i z).before a0 Z = true) (hp : pc + 2 = pc') (G : Go p e below Fin' T (mkF m pc' Ls (.int z :: S))) : Go p e below Fin' T (mkF m pc Ls S) := by
  subst hp; exact G.via fun _ k => X.ldcI C.1 C.2.2.1 (mvT C.2.1 w) rfl (hb C.2.2.2.1 hd) k
theorem Go.ldcWI (C : Cx p s m meth c Z own nm bytes maxL ret) (X : Stand p l e R s m args below meth c T locs cells slots) {i : Nat} {z : Int32} (hd : decode bytes pc = .ok (.ldc_w i, 3)) (w : (Cond.constant own i z).before a0 Z = true) (hp : pc + 3 = pc') (G : Go p e below Fin' T (mkF m pc' Ls (.int z :: S))) : Go p e below Fin' T (mkF m pc Ls S) := by
  subst hp; exact G.via (X.ldcwInt C.1 C.2.2.1 (mvT C.2.1 w) (g := mkF m pc Ls S) rfl (hb C.2.2.2.1 hd))
theorem Go.ldc2J (C : Cx p s m meth c Z own nm bytes maxL ret) (X : Stand p l e R s m args below meth c T locs cells slots) {i : Nat} {z : Int64} (hd : decode bytes pc = .ok (.ldc2_w i, 3)) (w : (Cond.constantLong own i z).before a0 Z = true) (hp : pc + 3 = pc') (G : Go p e below Fin' T (mkF m pc' Ls (.long z :: S))) : Go p e below Fin' T (mkF m pc Ls S) := by
  subst hp; exact G.via fun _ k => X.ldc2J C.1 C.2.2.1 (mvT C.2.1 w) rfl (hb C.2.2.2.1 hd) k
theorem Go.iadd (C : Cx p s m meth c Z own nm bytes maxL ret) (X : Stand p l e R s m args below meth c T locs cells slots) {x y : Int32} (hd : decode bytes pc = .ok (.iadd, 1))  (hp : pc + 1 = pc') (G : Go p e below Fin' T (mkF m pc' Ls (.int (x + y) :: S))) : Go p e below Fin' T (mkF m pc Ls (.int y :: .int x :: S)) := by
  subst hp; exact G.via fun _ k => XS.iadd X.here C.1 rfl (hb C.2.2.2.1 hd) rfl k
theorem Go.ladd (C : Cx p s m meth c Z own nm bytes maxL ret) (X : Stand p l e R s m args below meth c T locs cells slots) {x y : Int64} (hd : decode bytes pc = .ok (.ladd, 1))  (hp : pc + 1 = pc') (G : Go p e below Fin' T (mkF m pc' Ls (.long (x + y) :: S))) : Go p e below Fin' T (mkF m pc Ls (.long y :: .long x :: S)) := by
  subst hp; exact G.via fun _ k => XS.ladd X.here C.1 rfl (hb C.2.2.2.1 hd) rfl k
theorem Go.isub (C : Cx p s m meth c Z own nm bytes maxL ret) (X : Stand p l e R s m args below meth c T locs cells slots) {x y : Int32} (hd : decode bytes pc = .ok (.isub, 1))  (hp : pc + 1 = pc') (G : Go p e below Fin' T (mkF m pc' Ls (.int (x - y) :: S))) : Go p e below Fin' T (mkF m pc Ls (.int y :: .int x :: S)) := by
  subst hp; exact G.via fun _ k => XS.isub X.here C.1 rfl (hb C.2.2.2.1 hd) rfl k
theorem Go.lsub (C : Cx p s m meth c Z own nm bytes maxL ret) (X : Stand p l e R s m args below meth c T locs cells slots) {x y : Int64} (hd : decode bytes pc = .ok (.lsub, 1))  (hp : pc + 1 = pc') (G : Go p e below Fin' T (mkF m pc' Ls (.long (x - y) :: S))) : Go p e below Fin' T (mkF m pc Ls (.long y :: .long x :: S)) := by
  subst hp; exact G.via fun _ k => XS.lsub X.here C.1 rfl (hb C.2.2.2.1 hd) rfl k
theorem Go.imul (C : Cx p s m meth c Z own nm bytes maxL ret) (X : Stand p l e R s m args below meth c T locs cells slots) {x y : Int32} (hd : decode bytes pc = .ok (.imul, 1))  (hp : pc + 1 = pc') (G : Go p e below Fin' T (mkF m pc' Ls (.int (x * y) :: S))) : Go p e below Fin' T (mkF m pc Ls (.int y :: .int x :: S)) := by
  subst hp; exact G.via fun _ k => XS.imul X.here C.1 rfl (hb C.2.2.2.1 hd) rfl k
theorem Go.lmul (C : Cx p s m meth c Z own nm bytes maxL ret) (X : Stand p l e R s m args below meth c T locs cells slots) {x y : Int64} (hd : decode bytes pc = .ok (.lmul, 1))  (hp : pc + 1 = pc') (G : Go p e below Fin' T (mkF m pc' Ls (.long (x * y) :: S))) : Go p e below Fin' T (mkF m pc Ls (.long y :: .long x :: S)) := by
  subst hp; exact G.via fun _ k => XS.lmul X.here C.1 rfl (hb C.2.2.2.1 hd) rfl k
theorem Go.iand (C : Cx p s m meth c Z own nm bytes maxL ret) (X : Stand p l e R s m args below meth c T locs cells slots) {x y : Int32} (hd : decode bytes pc = .ok (.iand, 1))  (hp : pc + 1 = pc') (G : Go p e below Fin' T (mkF m pc' Ls (.int (x &&& y) :: S))) : Go p e below Fin' T (mkF m pc Ls (.int y :: .int x :: S)) := by
  subst hp; exact G.via fun _ k => XS.iand X.here C.1 rfl (hb C.2.2.2.1 hd) rfl k
theorem Go.land (C : Cx p s m meth c Z own nm bytes maxL ret) (X : Stand p l e R s m args below meth c T locs cells slots) {x y : Int64} (hd : decode bytes pc = .ok (.land, 1))  (hp : pc + 1 = pc') (G : Go p e below Fin' T (mkF m pc' Ls (.long (x &&& y) :: S))) : Go p e below Fin' T (mkF m pc Ls (.long y :: .long x :: S)) := by
  subst hp; exact G.via fun _ k => XS.land X.here C.1 rfl (hb C.2.2.2.1 hd) rfl k
theorem Go.ior (C : Cx p s m meth c Z own nm bytes maxL ret) (X : Stand p l e R s m args below meth c T locs cells slots) {x y : Int32} (hd : decode bytes pc = .ok (.ior, 1))  (hp : pc + 1 = pc') (G : Go p e below Fin' T (mkF m pc' Ls (.int (x ||| y) :: S))) : Go p e below Fin' T (mkF m pc Ls (.int y :: .int x :: S)) := by
  subst hp; exact G.via fun _ k => XS.ior X.here C.1 rfl (hb C.2.2.2.1 hd) rfl k
theorem Go.lor (C : Cx p s m meth c Z own nm bytes maxL ret) (X : Stand p l e R s m args below meth c T locs cells slots) {x y : Int64} (hd : decode bytes pc = .ok (.lor, 1))  (hp : pc + 1 = pc') (G : Go p e below Fin' T (mkF m pc' Ls (.long (x ||| y) :: S))) : Go p e below Fin' T (mkF m pc Ls (.long y :: .long x :: S)) := by
  subst hp; exact G.via fun _ k => XS.lor X.here C.1 rfl (hb C.2.2.2.1 hd) rfl k
theorem Go.ixor (C : Cx p s m meth c Z own nm bytes maxL ret) (X : Stand p l e R s m args below meth c T locs cells slots) {x y : Int32} (hd : decode bytes pc = .ok (.ixor, 1))  (hp : pc + 1 = pc') (G : Go p e below Fin' T (mkF m pc' Ls (.int (x ^^^ y) :: S))) : Go p e below Fin' T (mkF m pc Ls (.int y :: .int x :: S)) := by
  subst hp; exact G.via fun _ k => XS.ixor X.here C.1 rfl (hb C.2.2.2.1 hd) rfl k
theorem Go.lxor (C : Cx p s m meth c Z own nm bytes maxL ret) (X : Stand p l e R s m args below meth c T locs cells slots) {x y : Int64} (hd : decode bytes pc = .ok (.lxor, 1))  (hp : pc + 1 = pc') (G : Go p e below Fin' T (mkF m pc' Ls (.long (x ^^^ y) :: S))) : Go p e below Fin' T (mkF m pc Ls (.long y :: .long x :: S)) := by
  subst hp; exact G.via fun _ k => XS.lxor X.here C.1 rfl (hb C.2.2.2.1 hd) rfl k
theorem Go.ishl (C : Cx p s m meth c Z own nm bytes maxL ret) (X : Stand p l e R s m args below meth c T locs cells slots) {x y : Int32} (hd : decode bytes pc = .ok (.ishl, 1))  (hp : pc + 1 = pc') (G : Go p e below Fin' T (mkF m pc' Ls (.int (x <<< (y &&& 31)) :: S))) : Go p e below Fin' T (mkF m pc Ls (.int y :: .int x :: S)) := by
  subst hp; exact G.via fun _ k => XS.ishl X.here C.1 rfl (hb C.2.2.2.1 hd) rfl k
theorem Go.ishr (C : Cx p s m meth c Z own nm bytes maxL ret) (X : Stand p l e R s m args below meth c T locs cells slots) {x y : Int32} (hd : decode bytes pc = .ok (.ishr, 1))  (hp : pc + 1 = pc') (G : Go p e below Fin' T (mkF m pc' Ls (.int (x >>> (y &&& 31)) :: S))) : Go p e below Fin' T (mkF m pc Ls (.int y :: .int x :: S)) := by
  subst hp; exact G.via fun _ k => XS.ishr X.here C.1 rfl (hb C.2.2.2.1 hd) rfl k
theorem Go.iushr (C : Cx p s m meth c Z own nm bytes maxL ret) (X : Stand p l e R s m args below meth c T locs cells slots) {x y : Int32} (hd : decode bytes pc = .ok (.iushr, 1))  (hp : pc + 1 = pc') (G : Go p e below Fin' T (mkF m pc' Ls (.int ((x.toUInt32 >>> (y &&& 31).toUInt32).toInt32) :: S))) : Go p e below Fin' T (mkF m pc Ls (.int y :: .int x :: S)) := by
  subst hp; exact G.via fun _ k => XS.iushr X.here C.1 rfl (hb C.2.2.2.1 hd) rfl k
theorem Go.lshl (C : Cx p s m meth c Z own nm bytes maxL ret) (X : Stand p l e R s m args below meth c T locs cells slots) {x : Int64} {y : Int32} (hd : decode bytes pc = .ok (.lshl, 1))  (hp : pc + 1 = pc') (G : Go p e below Fin' T (mkF m pc' Ls (.long (x <<< (y &&& 0x3f).toInt64) :: S))) : Go p e below Fin' T (mkF m pc Ls (.int y :: .long x :: S)) := by
  subst hp; exact G.via fun _ k => XS.lshl X.here C.1 rfl (hb C.2.2.2.1 hd) rfl k
theorem Go.lshr (C : Cx p s m meth c Z own nm bytes maxL ret) (X : Stand p l e R s m args below meth c T locs cells slots) {x : Int64} {y : Int32} (hd : decode bytes pc = .ok (.lshr, 1))  (hp : pc + 1 = pc') (G : Go p e below Fin' T (mkF m pc' Ls (.long (x >>> (y &&& 0x3f).toInt64) :: S))) : Go p e below Fin' T (mkF m pc Ls (.int y :: .long x :: S)) := by
  subst hp; exact G.via fun _ k => XS.lshr X.here C.1 rfl (hb C.2.2.2.1 hd) rfl k
theorem Go.lushr (C : Cx p s m meth c Z own nm bytes maxL ret) (X : Stand p l e R s m args below meth c T locs cells slots) {x : Int64} {y : Int32} (hd : decode bytes pc = .ok (.lushr, 1))  (hp : pc + 1 = pc') (G : Go p e below Fin' T (mkF m pc' Ls (.long ((x.toUInt64 >>> (y &&& 0x3f).toInt64.toUInt64).toInt64) :: S))) : Go p e below Fin' T (mkF m pc Ls (.int y :: .long x :: S)) := by
  subst hp; exact G.via fun _ k => XS.lushr X.here C.1 rfl (hb C.2.2.2.1 hd) rfl k
theorem Go.idiv (C : Cx p s m meth c Z own nm bytes maxL ret) (X : Stand p l e R s m args below meth c T locs cells slots) {x y : Int32} (hd : decode bytes pc = .ok (.idiv, 1)) (hy : y ≠ 0) (hp : pc + 1 = pc') (G : Go p e below Fin' T (mkF m pc' Ls (.int (x / y) :: S))) : Go p e below Fin' T (mkF m pc Ls (.int y :: .int x :: S)) := by
  subst hp; exact G.via fun _ k => XS.idiv X.here C.1 rfl (hb C.2.2.2.1 hd) rfl hy k
theorem Go.irem (C : Cx p s m meth c Z own nm bytes maxL ret) (X : Stand p l e R s m args below meth c T locs cells slots) {x y : Int32} (hd : decode bytes pc = .ok (.irem, 1)) (hy : y ≠ 0) (hp : pc + 1 = pc') (G : Go p e below Fin' T (mkF m pc' Ls (.int (x % y) :: S))) : Go p e below Fin' T (mkF m pc Ls (.int y :: .int x :: S)) := by
  subst hp; exact G.via fun _ k => iremM X C.1 rfl (hb C.2.2.2.1 hd) rfl hy k
theorem Go.ldiv (C : Cx p s m meth c Z own nm bytes maxL ret) (X : Stand p l e R s m args below meth c T locs cells slots) {x y : Int64} (hd : decode bytes pc = .ok (.ldiv, 1)) (hy : y ≠ 0) (hp : pc + 1 = pc') (G : Go p e below Fin' T (mkF m pc' Ls (.long (x / y) :: S))) : Go p e below Fin' T (mkF m pc Ls (.long y :: .long x :: S)) := by
  subst hp; exact G.via fun _ k => XS.ldiv X.here C.1 rfl (hb C.2.2.2.1 hd) rfl hy k
theorem Go.ineg (C : Cx p s m meth c Z own nm bytes maxL ret) (X : Stand p l e R s m args below meth c T locs cells slots) {x : Int32} (hd : decode bytes pc = .ok (.ineg, 1))  (hp : pc + 1 = pc') (G : Go p e below Fin' T (mkF m pc' Ls (.int (-x) :: S))) : Go p e below Fin' T (mkF m pc Ls (.int x :: S)) := by
  subst hp; exact G.via fun _ k => XS.ineg X.here C.1 rfl (hb C.2.2.2.1 hd) rfl k
theorem Go.lneg (C : Cx p s m meth c Z own nm bytes maxL ret) (X : Stand p l e R s m args below meth c T locs cells slots) {x : Int64} (hd : decode bytes pc = .ok (.lneg, 1))  (hp : pc + 1 = pc') (G : Go p e below Fin' T (mkF m pc' Ls (.long (-x) :: S))) : Go p e below Fin' T (mkF m pc Ls (.long x :: S)) := by
  subst hp; exact G.via fun _ k => XS.lneg X.here C.1 rfl (hb C.2.2.2.1 hd) rfl k
theorem Go.i2l (C : Cx p s m meth c Z own nm bytes maxL ret) (X : Stand p l e R s m args below meth c T locs cells slots) {x : Int32} (hd : decode bytes pc = .ok (.i2l, 1))  (hp : pc + 1 = pc') (G : Go p e below Fin' T (mkF m pc' Ls (.long (x.toInt64) :: S))) : Go p e below Fin' T (mkF m pc Ls (.int x :: S)) := by
  subst hp; exact G.via fun _ k => XS.i2l X.here C.1 rfl (hb C.2.2.2.1 hd) rfl k
theorem Go.l2i (C : Cx p s m meth c Z own nm bytes maxL ret) (X : Stand p l e R s m args below meth c T locs cells slots) {x : Int64} (hd : decode bytes pc = .ok (.l2i, 1))  (hp : pc + 1 = pc') (G : Go p e below Fin' T (mkF m pc' Ls (.int (x.toInt32) :: S))) : Go p e below Fin' T (mkF m pc Ls (.long x :: S)) := by
  subst hp; exact G.via fun _ k => XS.l2i X.here C.1 rfl (hb C.2.2.2.1 hd) rfl k
theorem Go.i2b (C : Cx p s m meth c Z own nm bytes maxL ret) (X : Stand p l e R s m args below meth c T locs cells slots) {x : Int32} (hd : decode bytes pc = .ok (.i2b, 1))  (hp : pc + 1 = pc') (G : Go p e below Fin' T (mkF m pc' Ls (.int (x.toInt8.toInt32) :: S))) : Go p e below Fin' T (mkF m pc Ls (.int x :: S)) := by
  subst hp; exact G.via fun _ k => XS.i2b X.here C.1 rfl (hb C.2.2.2.1 hd) rfl k
theorem Go.i2c (C : Cx p s m meth c Z own nm bytes maxL ret) (X : Stand p l e R s m args below meth c T locs cells slots) {x : Int32} (hd : decode bytes pc = .ok (.i2c, 1))  (hp : pc + 1 = pc') (G : Go p e below Fin' T (mkF m pc' Ls (.int (x.toUInt32.toUInt16.toUInt32.toInt32) :: S))) : Go p e below Fin' T (mkF m pc Ls (.int x :: S)) := by
  subst hp; exact G.via fun _ k => XS.i2c X.here C.1 rfl (hb C.2.2.2.1 hd) rfl k
theorem Go.i2s (C : Cx p s m meth c Z own nm bytes maxL ret) (X : Stand p l e R s m args below meth c T locs cells slots) {x : Int32} (hd : decode bytes pc = .ok (.i2s, 1))  (hp : pc + 1 = pc') (G : Go p e below Fin' T (mkF m pc' Ls (.int (x.toInt16.toInt32) :: S))) : Go p e below Fin' T (mkF m pc Ls (.int x :: S)) := by
  subst hp; exact G.via fun _ k => XS.i2s X.here C.1 rfl (hb C.2.2.2.1 hd) rfl k
theorem Go.lcmp (C : Cx p s m meth c Z own nm bytes maxL ret) (X : Stand p l e R s m args below meth c T locs cells slots) {x y : Int64} (hd : decode bytes pc = .ok (.lcmp, 1))  (hp : pc + 1 = pc') (G : Go p e below Fin' T (mkF m pc' Ls (.int (lcmpW x y) :: S))) : Go p e below Fin' T (mkF m pc Ls (.long y :: .long x :: S)) := by
  subst hp; exact G.via fun _ k => XS.lcmp X.here C.1 rfl (hb C.2.2.2.1 hd) rfl k
theorem Go.iinc (C : Cx p s m meth c Z own nm bytes maxL ret) (X : Stand p l e R s m args below meth c T locs cells slots) {k : Nat} {i : Int} {z x : Int32} (hd : decode bytes pc = .ok (.iinc k i, 3)) (hz : Int32.ofInt i = z) (hl : Ls[k]? = some (.val (.int x))) (hl' : storeLocals Ls k (.int (x + z)) = some Ls') (hp : pc + 3 = pc') (G : Go p e below Fin' T (mkF m pc' Ls' S)) : Go p e below Fin' T (mkF m pc Ls S) := by
  subst hp; exact G.via fun _ k => XT.iincV X.here C.1 rfl z (hb C.2.2.2.1 hd) hz hl hl' k
theorem Go.dup (C : Cx p s m meth c Z own nm bytes maxL ret) (X : Stand p l e R s m args below meth c T locs cells slots) {v : Value} (hd : decode bytes pc = .ok (.dup, 1)) (hc : v.category = 1) (hp : pc + 1 = pc') (G : Go p e below Fin' T (mkF m pc' Ls (v :: v :: S))) : Go p e below Fin' T (mkF m pc Ls (v :: S)) := by
  subst hp; exact G.via fun _ k => XS.dup X.here C.1 rfl (hb C.2.2.2.1 hd) rfl hc k
theorem Go.pop (C : Cx p s m meth c Z own nm bytes maxL ret) (X : Stand p l e R s m args below meth c T locs cells slots) {v : Value} (hd : decode bytes pc = .ok (.pop, 1)) (hc : v.category = 1) (hp : pc + 1 = pc') (G : Go p e below Fin' T (mkF m pc' Ls S)) : Go p e below Fin' T (mkF m pc Ls (v :: S)) := by
  subst hp; exact G.via fun _ k => XS.pop X.here C.1 rfl (hb C.2.2.2.1 hd) rfl hc k
theorem Go.dupX1 (C : Cx p s m meth c Z own nm bytes maxL ret) (X : Stand p l e R s m args below meth c T locs cells slots) {v w : Value} (hd : decode bytes pc = .ok (.dup_x1, 1)) (hc : v.category = 1) (hc' : w.category = 1) (hp : pc + 1 = pc') (G : Go p e below Fin' T (mkF m pc' Ls (v :: w :: v :: S))) : Go p e below Fin' T (mkF m pc Ls (v :: w :: S)) := by
  subst hp; exact G.via fun _ k => XS.dupX1 X.here C.1 rfl (hb C.2.2.2.1 hd) rfl hc hc' k
theorem Go.dup2 (C : Cx p s m meth c Z own nm bytes maxL ret) (X : Stand p l e R s m args below meth c T locs cells slots) {v w : Value} (hd : decode bytes pc = .ok (.dup2, 1)) (hc : v.category = 1) (hc' : w.category = 1) (hp : pc + 1 = pc') (G : Go p e below Fin' T (mkF m pc' Ls (v :: w :: v :: w :: S))) : Go p e below Fin' T (mkF m pc Ls (v :: w :: S)) := by
  subst hp; exact G.via fun _ k => XT.dup2 X.here C.1 rfl (hb C.2.2.2.1 hd) rfl hc hc' k
theorem Go.dup2L (C : Cx p s m meth c Z own nm bytes maxL ret) (X : Stand p l e R s m args below meth c T locs cells slots) {x : Int64} (hd : decode bytes pc = .ok (.dup2, 1))  (hp : pc + 1 = pc') (G : Go p e below Fin' T (mkF m pc' Ls (.long x :: .long x :: S))) : Go p e below Fin' T (mkF m pc Ls (.long x :: S)) := by
  subst hp; exact G.via fun _ k => XT.dup2L X.here C.1 rfl (hb C.2.2.2.1 hd) rfl k
theorem Go.goto (C : Cx p s m meth c Z own nm bytes maxL ret) (X : Stand p l e R s m args below meth c T locs cells slots)  {o : Int} (hd : decode bytes pc = .ok (.goto o, 3))  (ho : 0 ≤ (pc : Int) + o) (hp : ((pc : Int) + o).toNat = pc') (G : Go p e below Fin' T (mkF m pc' Ls S)) : Go p e below Fin' T (mkF m pc Ls S) :=
  G.via fun _ k => XS.goto X.here C.1 rfl rfl (hb C.2.2.2.1 hd) ho hp k
theorem Go.ifYes (C : Cx p s m meth c Z own nm bytes maxL ret) (X : Stand p l e R s m args below meth c T locs cells slots) {cd : ClassFile.Cond} {x : Int32} {o : Int} (hd : decode bytes pc = .ok (.ifCond cd o, 3)) (hc : ifCond.holds cd x = true) (ho : 0 ≤ (pc : Int) + o) (hp : ((pc : Int) + o).toNat = pc') (G : Go p e below Fin' T (mkF m pc' Ls S)) : Go p e below Fin' T (mkF m pc Ls (.int x :: S)) :=
  G.via fun _ k => XS.ifYes X.here C.1 rfl rfl (hb C.2.2.2.1 hd) rfl hc ho hp k
theorem Go.ifNo (C : Cx p s m meth c Z own nm bytes maxL ret) (X : Stand p l e R s m args below meth c T locs cells slots) {cd : ClassFile.Cond} {x : Int32} {o : Int} (hd : decode bytes pc = .ok (.ifCond cd o, 3)) (hc : ifCond.holds cd x = false) (hp : pc + 3 = pc') (G : Go p e below Fin' T (mkF m pc' Ls S)) : Go p e below Fin' T (mkF m pc Ls (.int x :: S)) := by
  subst hp; exact G.via fun _ k => XS.ifNo X.here C.1 rfl (hb C.2.2.2.1 hd) rfl hc k
theorem Go.icmpYes (C : Cx p s m meth c Z own nm bytes maxL ret) (X : Stand p l e R s m args below meth c T locs cells slots) {cd : ClassFile.Cond} {x y : Int32} {o : Int} (hd : decode bytes pc = .ok (.if_icmp cd o, 3)) (hc : if_icmp.holds cd x y = true) (ho : 0 ≤ (pc : Int) + o) (hp : ((pc : Int) + o).toNat = pc') (G : Go p e below Fin' T (mkF m pc' Ls S)) : Go p e below Fin' T (mkF m pc Ls (.int y :: .int x :: S)) :=
  G.via fun _ k => XS.icmpYes X.here C.1 rfl rfl (hb C.2.2.2.1 hd) rfl hc ho hp k
theorem Go.icmpNo (C : Cx p s m meth c Z own nm bytes maxL ret) (X : Stand p l e R s m args below meth c T locs cells slots) {cd : ClassFile.Cond} {x y : Int32} {o : Int} (hd : decode bytes pc = .ok (.if_icmp cd o, 3)) (hc : if_icmp.holds cd x y = false) (hp : pc + 3 = pc') (G : Go p e below Fin' T (mkF m pc' Ls S)) : Go p e below Fin' T (mkF m pc Ls (.int y :: .int x :: S)) := by
  subst hp; exact G.via fun _ k => XS.icmpNo X.here C.1 rfl (hb C.2.2.2.1 hd) rfl hc k
theorem Go.ifnullYes (C : Cx p s m meth c Z own nm bytes maxL ret) (X : Stand p l e R s m args below meth c T locs cells slots)  {o : Int} (hd : decode bytes pc = .ok (.ifnull o, 3))  (ho : 0 ≤ (pc : Int) + o) (hp : ((pc : Int) + o).toNat = pc') (G : Go p e below Fin' T (mkF m pc' Ls S)) : Go p e below Fin' T (mkF m pc Ls (.null :: S)) :=
  G.via fun _ k => XS.ifnullYes X.here C.1 rfl rfl (hb C.2.2.2.1 hd) rfl ho hp k
theorem Go.ifnullNo (C : Cx p s m meth c Z own nm bytes maxL ret) (X : Stand p l e R s m args below meth c T locs cells slots) {b : Addr} {o : Int} (hd : decode bytes pc = .ok (.ifnull o, 3))  (hp : pc + 3 = pc') (G : Go p e below Fin' T (mkF m pc' Ls S)) : Go p e below Fin' T (mkF m pc Ls (.ref b :: S)) := by
  subst hp; exact G.via fun _ k => XS.ifnullNo X.here C.1 rfl (hb C.2.2.2.1 hd) rfl k
theorem Go.ifnonnullYes (C : Cx p s m meth c Z own nm bytes maxL ret) (X : Stand p l e R s m args below meth c T locs cells slots) {b : Addr} {o : Int} (hd : decode bytes pc = .ok (.ifnonnull o, 3))  (ho : 0 ≤ (pc : Int) + o) (hp : ((pc : Int) + o).toNat = pc') (G : Go p e below Fin' T (mkF m pc' Ls S)) : Go p e below Fin' T (mkF m pc Ls (.ref b :: S)) :=
  G.via fun _ k => XS.ifnonnullYes X.here C.1 rfl rfl (hb C.2.2.2.1 hd) rfl ho hp k
theorem Go.ifnonnullNo (C : Cx p s m meth c Z own nm bytes maxL ret) (X : Stand p l e R s m args below meth c T locs cells slots)  {o : Int} (hd : decode bytes pc = .ok (.ifnonnull o, 3))  (hp : pc + 3 = pc') (G : Go p e below Fin' T (mkF m pc' Ls S)) : Go p e below Fin' T (mkF m pc Ls (.null :: S)) := by
  subst hp; exact G.via fun _ k => XS.ifnonnullNo X.here C.1 rfl (hb C.2.2.2.1 hd) rfl k
theorem Go.acmpYes (C : Cx p s m meth c Z own nm bytes maxL ret) (X : Stand p l e R s m args below meth c T locs cells slots) {cd : ClassFile.ACond} {v w : Value} {o : Int} (hd : decode bytes pc = .ok (.if_acmp cd o, 3)) (hv : v.isRef = true) (hw : w.isRef = true) (hc : XT.acmp cd v w = true) (ho : 0 ≤ (pc : Int) + o) (hp : ((pc : Int) + o).toNat = pc') (G : Go p e below Fin' T (mkF m pc' Ls S)) : Go p e below Fin' T (mkF m pc Ls (w :: v :: S)) :=
  G.via fun _ k => XT.acmpYes X.here C.1 rfl rfl (hb C.2.2.2.1 hd) rfl hv hw hc ho hp k
theorem Go.acmpNo (C : Cx p s m meth c Z own nm bytes maxL ret) (X : Stand p l e R s m args below meth c T locs cells slots) {cd : ClassFile.ACond} {v w : Value} {o : Int} (hd : decode bytes pc = .ok (.if_acmp cd o, 3)) (hv : v.isRef = true) (hw : w.isRef = true) (hc : XT.acmp cd v w = false) (hp : pc + 3 = pc') (G : Go p e below Fin' T (mkF m pc' Ls S)) : Go p e below Fin' T (mkF m pc Ls (w :: v :: S)) := by
  subst hp; exact G.via fun _ k => XT.acmpNo X.here C.1 rfl (hb C.2.2.2.1 hd) rfl hv hw hc k
theorem Go.tswIn (C : Cx p s m meth c Z own nm bytes maxL ret) (X : Stand p l e R s m args below meth c T locs cells slots) {dflt low high : Int} {offs : Array Int} {len : Nat} {o : Int} {i : Int32} (hd : decode bytes pc = .ok (.tableswitch dflt low high offs, len)) (hin : ¬ (i.toInt < low ∨ i.toInt > high)) (hoff : offs[(i.toInt - low).toNat]? = some o) (ho : 0 ≤ (pc : Int) + o) (hp : ((pc : Int) + o).toNat = pc') (G : Go p e below Fin' T (mkF m pc' Ls S)) : Go p e below Fin' T (mkF m pc Ls (.int i :: S)) :=
  G.via fun _ k => XS.tswIn X.here C.1 rfl rfl (hb C.2.2.2.1 hd) rfl hin hoff ho hp k
theorem Go.tswOut (C : Cx p s m meth c Z own nm bytes maxL ret) (X : Stand p l e R s m args below meth c T locs cells slots) {dflt low high : Int} {offs : Array Int} {len : Nat} {i : Int32} (hd : decode bytes pc = .ok (.tableswitch dflt low high offs, len)) (hout : i.toInt < low ∨ i.toInt > high) (ho : 0 ≤ (pc : Int) + dflt) (hp : ((pc : Int) + dflt).toNat = pc') (G : Go p e below Fin' T (mkF m pc' Ls S)) : Go p e below Fin' T (mkF m pc Ls (.int i :: S)) :=
  G.via fun _ k => XS.tswOut X.here C.1 rfl rfl (hb C.2.2.2.1 hd) rfl hout ho hp k
/-! the returns -/
theorem Go.retV (C : Cx p s m meth c Z own nm bytes maxL ret) (X : Stand p l e R s m args below meth c T locs cells slots)  (hr : ret = none) (hd : decode bytes pc = .ok (.return_, 1))  (hq : Q none T.heap locs) (hc : cells ≤ RC) (hs : slots ≤ RS) : Go p e below (Fn s RC RS Q) T (mkF m pc Ls []) := by
  have hret := C.2.2.2.2.2.1
  have hlk := C.2.2.2.2.2.2.2
  rw [hr] at hret
  obtain ⟨fs, hl, hrun, hended, hW, hsame⟩ := X.leave (v := none) (fun h => by first | rfl | (rw [hret] at h; cases h)) hlk
  exact ⟨_, _, X.returnOut C.1 hret (hb C.2.2.2.1 hd) hl, hrun, hended, _, _, rfl, hq, ⟨_, rfl⟩, hW, hsame.mono hc hs⟩
theorem Go.retN (C : Cx p s m meth c Z own nm bytes maxL ret) (X : Stand p l e R s m args below meth c T locs cells slots) {t : FieldType} {z : Int32} (hr : ret = some t) (hd : decode bytes pc = .ok (.ireturn, 1)) (ht : t = .boolean ∨ t = .byte ∨ t = .char ∨ t = .short) (hq : Q (some (.int (nar t z))) T.heap locs) (hc : cells ≤ RC) (hs : slots ≤ RS) : Go p e below (Fn s RC RS Q) T (mkF m pc Ls (.int z :: S)) := by
  have hret := C.2.2.2.2.2.1
  have hlk := C.2.2.2.2.2.2.2
  rw [hr] at hret
  obtain ⟨fs, hl, hrun, hended, hW, hsame⟩ := X.leave (v := (some (.int (nar t z)))) (fun h => by first | rfl | (rw [hret] at h; cases h)) hlk
  exact ⟨_, _, Jvm.RoadKit.retN X C.1 hret ht (hb C.2.2.2.1 hd) hl, hrun, hended, _, _, rfl, hq, ⟨_, rfl⟩, hW, hsame.mono hc hs⟩
theorem Go.retI (C : Cx p s m meth c Z own nm bytes maxL ret) (X : Stand p l e R s m args below meth c T locs cells slots) {z : Int32} (hr : ret = some .int) (hd : decode bytes pc = .ok (.ireturn, 1))  (hq : Q (some (.int z)) T.heap locs) (hc : cells ≤ RC) (hs : slots ≤ RS) : Go p e below (Fn s RC RS Q) T (mkF m pc Ls (.int z :: S)) := by
  have hret := C.2.2.2.2.2.1
  have hlk := C.2.2.2.2.2.2.2
  rw [hr] at hret
  obtain ⟨fs, hl, hrun, hended, hW, hsame⟩ := X.leave (v := (some (.int z))) (fun h => by first | rfl | (rw [hret] at h; cases h)) hlk
  exact ⟨_, _, retOut X C.1 hret rfl (Or.inl ⟨rfl, Or.inl rfl, z, rfl⟩) (hb C.2.2.2.1 hd) hl, hrun, hended, _, _, rfl, hq, ⟨_, rfl⟩, hW, hsame.mono hc hs⟩
theorem Go.retJ (C : Cx p s m meth c Z own nm bytes maxL ret) (X : Stand p l e R s m args below meth c T locs cells slots) {z : Int64} (hr : ret = some .long) (hd : decode bytes pc = .ok (.lreturn, 1))  (hq : Q (some (.long z)) T.heap locs) (hc : cells ≤ RC) (hs : slots ≤ RS) : Go p e below (Fn s RC RS Q) T (mkF m pc Ls (.long z :: S)) := by
  have hret := C.2.2.2.2.2.1
  have hlk := C.2.2.2.2.2.2.2
  rw [hr] at hret
  obtain ⟨fs, hl, hrun, hended, hW, hsame⟩ := X.leave (v := (some (.long z))) (fun h => by first | rfl | (rw [hret] at h; cases h)) hlk
  exact ⟨_, _, retOut X C.1 hret rfl (Or.inr (Or.inl ⟨rfl, rfl, z, rfl⟩)) (hb C.2.2.2.1 hd) hl, hrun, hended, _, _, rfl, hq, ⟨_, rfl⟩, hW, hsame.mono hc hs⟩
theorem Go.retA (C : Cx p s m meth c Z own nm bytes maxL ret) (X : Stand p l e R s m args below meth c T locs cells slots) {t : FieldType} {v : Value} (hr : ret = some t) (hd : decode bytes pc = .ok (.areturn, 1)) (ht : t.isReference = true) (hv : v.isRef = true) (hn : narrow t v = v) (hq : Q (some v) T.heap locs) (hc : cells ≤ RC) (hs : slots ≤ RS) : Go p e below (Fn s RC RS Q) T (mkF m pc Ls (v :: S)) := by
  have hret := C.2.2.2.2.2.1
  have hlk := C.2.2.2.2.2.2.2
  rw [hr] at hret
  obtain ⟨fs, hl, hrun, hended, hW, hsame⟩ := X.leave (v := (some v)) (fun h => by first | rfl | (rw [hret] at h; cases h)) hlk
  exact ⟨_, _, retOut X C.1 hret hn (Or.inr (Or.inr (Or.inr (Or.inr ⟨rfl, ht, hv⟩)))) (hb C.2.2.2.1 hd) hl, hrun, hended, _, _, rfl, hq, ⟨_, rfl⟩, hW, hsame.mono hc hs⟩
/-! arrays whose elements are all known -/
def AL (Z : State) (h : Heap) (a : Addr) (k : ClassId) (ty : FieldType) (vs : List Value) : Prop := ∃ c : Cell, Arr Z h a c ty ∧ c.cls = k ∧ c.slots = vs.toArray
theorem AL.lt {a : Addr} {k : ClassId} {ty : FieldType} {vs : List Value} (F : AL Z h a k ty vs) : a < h.size := by obtain ⟨c, A, -⟩ := F; exact A.lt
theorem AL.ext {h' : Heap} {a : Addr} {k : ClassId} {ty : FieldType} {vs : List Value} (E : Ext h h') (F : AL Z h a k ty vs) : AL Z h' a k ty vs := by obtain ⟨c, A, r⟩ := F; exact ⟨c, A.ext E, r⟩
theorem AL.other {h' : Heap} {a b : Addr} {sl : Nat} {v : Value} {k : ClassId} {ty : FieldType} {vs : List Value} (W : Wr h h' a sl v) (F : AL Z h b k ty vs) (q : b ≠ a) : AL Z h' b k ty vs := by obtain ⟨c, A, r⟩ := F; exact ⟨c, A.other W q, r⟩
theorem AL.keep {h' : Heap} {a : Addr} {ws : List Addr} {k : ClassId} {ty : FieldType} {vs : List Value} (F : AL Z h a k ty vs) (K : Keep h h' ws) (q : a ∉ ws) : AL Z h' a k ty vs := by obtain ⟨c, A, r⟩ := F; exact ⟨c, ⟨K.2.1 a c A.1 q, A.2⟩, r⟩
theorem AL.set {h' : Heap} {a : Addr} {i : Nat} {v : Value} {k : ClassId} {ty : FieldType} {vs : List Value} (F : AL Z h a k ty vs) (W : Wr h h' a i v) : AL Z h' a k ty (vs.set i v) := by
  obtain ⟨c, A, r1, r2⟩ := F
  exact ⟨_, A.same W, r1, by simp [Cell.setSlot, r2]⟩
theorem AL.new {a : Addr} {k : ClassId} {ty : FieldType} {n : Int32} (A : Arr Z h a (newA k ty n) ty) : AL Z h a k ty (List.replicate n.toNatClampNeg (defaultValue ty)) := ⟨_, A, rfl, by simp [newA]⟩
theorem AL.arv {a : Addr} {k : ClassId} {ty : FieldType} {n : Int32} {vs : List Value} {dv : Value} (F : AL Z h a k ty vs) (hn : ¬ n < 0) (hl : n.toNatClampNeg = vs.length) (hf : ∀ v ∈ vs, fits ty v = true) : Arv Z h a k ty n vs dv := by
  obtain ⟨c, A, r1, r2⟩ := F
  refine ⟨c, A, r1, by rw [r2]; simp [hl], hn, fun i hi => ?_, fun i hi => ?_⟩
  · have hi' : i < vs.length := by simpa [r2] using hi
    simp [r2, List.getD, List.getElem?_eq_getElem hi']
  · have hi' : i < vs.length := by simpa [r2] using hi
    have q : vs.getD i dv = vs[i] := by simp [List.getD, List.getElem?_eq_getElem hi']
    rw [q]; exact hf _ (List.getElem_mem hi')
theorem AL.of_arv {a : Addr} {k : ClassId} {ty : FieldType} {n : Int32} {vs : List Value} {dv : Value} (F : Arv Z h a k ty n vs dv) (hl : n.toNatClampNeg = vs.length) : AL Z h a k ty vs := by
  obtain ⟨c, A, r1, r2, -, H, -⟩ := F
  refine ⟨c, A, r1, ?_⟩
  apply Array.ext_getElem?
  intro i
  by_cases hi : i < c.slots.size
  · have hi' : i < vs.length := by omega
    rw [H i hi]
    simp [List.getD, List.getElem?_eq_getElem hi']
  · have hi' : vs.length ≤ i := by omega
    rw [Array.getElem?_eq_none (by omega)]
    simp [List.getElem?_eq_none hi']
theorem Sta.old {n d K1 : String} {v : Value} (F : Sta Z Z.heap K1 n d v) (O : Ext Z.heap h) : Sta Z h K1 n d v := F.ext O
theorem Ext.trans {h1 h2 h3 : Heap} (E : Ext h1 h2) (E' : Ext h2 h3) : Ext h1 h3 := ⟨Nat.le_trans E.1 E'.1, fun x c q => E'.2 x c (E.2 x c q)⟩
theorem Ext.refl (h : Heap) : Ext h h := ⟨Nat.le_refl _, fun _ _ q => q⟩
theorem Ext.wr {h1 h2 h3 : Heap} {a : Addr} {sl : Nat} {v : Value} (E : Ext h1 h2) (W : Wr h2 h3 a sl v) (q : h1.size ≤ a) : Ext h1 h3 := by
  refine ⟨by rw [W.size]; exact E.1, fun x c hx => ?_⟩
  obtain ⟨c', e1, -, -, -, e5, -⟩ := wr_at W (E.2 x c hx)
  have ne : x ≠ a := fun e => absurd (Array.getElem?_eq_some_iff.mp hx).1 (by rw [e]; exact Nat.not_lt.mpr q)
  rw [← e5 ne]; exact e1
theorem Ext.keep {h1 h2 h3 : Heap} {ws : List Addr} (E : Ext h1 h2) (K : Keep h2 h3 ws) (q : ∀ x ∈ ws, h1.size ≤ x) : Ext h1 h3 := ⟨Nat.le_trans E.1 K.1, fun x c hx => K.2.1 x c (E.2 x c hx) fun z => absurd (Array.getElem?_eq_some_iff.mp hx).1 (Nat.not_lt.mpr (q x z))⟩
theorem Keep.toExt {h1 h2 : Heap} (K : Keep h1 h2 []) : Ext h1 h2 := ⟨K.1, fun x c hx => K.2.1 x c hx (fun z => nomatch z)⟩
theorem Keep.of_ext {h1 h2 : Heap} {ws : List Addr} (E : Ext h1 h2) : Keep h1 h2 ws := (Keep.refl h1 ws).ext E
theorem Keep.drop {h1 h2 : Heap} {ws ws' : List Addr} (K : Keep h1 h2 ws) (q : ∀ x ∈ ws, x ∈ ws' ∨ h1.size ≤ x) : Keep h1 h2 ws' := (Keep.refl h1 ws').trans K q
theorem Ins.keep {h' : Heap} {a : Addr} {ws : List Addr} {K1 : String} {bo : Bool} (F : Ins Z h a K1 bo) (K : Keep h h' ws) : Ins Z h' a K1 bo := by
  obtain ⟨cell, cT, h1, h2, h3⟩ := F
  obtain ⟨c', e1, e2, e3, -⟩ := K.2.2 _ _ h1
  exact ⟨c', cT, e1, h2, by rw [e2, e3]; exact h3⟩
/-! steps that read the tables or the heap -/
theorem Go.getF (C : Cx p s m meth c Z own nm bytes maxL ret) (X : Stand p l e R s m args below meth c T locs cells slots) {idx : Nat} {R0 O n d host : String} {a : Addr} {v : Value} (w : (Cond.fieldLink own idx R0 n d).before a0 Z = true ∨ (Cond.fieldLinkNest own idx R0 n d host).before a0 Z = true) (via : Via Z R0 O n d) (eT : T.heap = h) (F : Fld Z h a O n d v) (hd : decode bytes pc = .ok (.getfield idx, 3)) (hp : pc + 3 = pc')
    (K : ∀ T', Stand p l e R s m args below meth c T' locs cells slots → T'.heap = h → Go p e below Fin' T' (mkF m pc' Ls (v :: S))) : Go p e below Fin' T (mkF m pc Ls (.ref a :: S)) := by
  subst hp
  obtain ⟨T', X', e', st⟩ := Jvm.RoadKit.getF X C.1 C.2.1 C.2.2.1 w via eT F (g := mkF m pc Ls (.ref a :: S)) rfl rfl (hb C.2.2.2.1 hd)
  exact (K T' X' e').via st
theorem Go.getS (C : Cx p s m meth c Z own nm bytes maxL ret) (X : Stand p l e R s m args below meth c T locs cells slots) {idx : Nat} {R0 O n d host : String} {v : Value} (w : (Cond.fieldLink own idx R0 n d).before a0 Z = true ∨ (Cond.fieldLinkNest own idx R0 n d host).before a0 Z = true) (via : Via Z R0 O n d) (eT : T.heap = h) (F : Sta Z h O n d v) (hd : decode bytes pc = .ok (.getstatic idx, 3)) (hp : pc + 3 = pc')
    (K : ∀ T', Stand p l e R s m args below meth c T' locs cells slots → T'.heap = h → Go p e below Fin' T' (mkF m pc' Ls (v :: S))) : Go p e below Fin' T (mkF m pc Ls S) := by
  subst hp
  obtain ⟨T', X', e', st⟩ := getS2 X C.1 C.2.1 C.2.2.1 w via eT F (g := mkF m pc Ls S) rfl (hb C.2.2.2.1 hd)
  exact (K T' X' e').via st
theorem Go.putF (C : Cx p s m meth c Z own nm bytes maxL ret) (X : Stand p l e R s m args below meth c T locs cells slots) {idx kk : Nat} {R0 O n d host K1 : String} {a : Addr} {v old : Value} {ty : FieldType} (w : (Cond.fieldLink own idx R0 n d).before a0 Z = true ∨ (Cond.fieldLinkNest own idx R0 n d host).before a0 Z = true) (via : Via Z R0 O n d) (eT : T.heap = h) (F : Fld Z h a O n d old) (E : Exa Z h a K1) (L : (Cond.lays K1 O n d).before a0 Z = true ∨ ((Cond.laysFinal K1 O n d).before a0 Z = true ∧ own = O ∧ nm = "<init>")) (wi : (Cond.instantiable K1 kk).before a0 Z = true) (hty : parseFieldDescriptor d = some ty) (hn : narrow ty v = v) (hf : fits ty v = true) (hd : decode bytes pc = .ok (.putfield idx, 3)) (hp : pc + 3 = pc')
    (K : ∀ T' h', Stand p l e R s m args below meth c T' (locs ++ [⟨a, slotOf Z O n d⟩]) cells slots → T'.heap = h' → Wr h h' a (slotOf Z O n d) v → Fld Z h' a O n d v → Go p e below Fin' T' (mkF m pc' Ls S)) : Go p e below Fin' T (mkF m pc Ls (v :: .ref a :: S)) := by
  subst hp
  obtain ⟨T', h', X', e', W', st⟩ := Jvm.RoadKit.putF X C.1 C.2.1 C.2.2.1 w via eT F E (L.imp id fun q => ⟨q.1, q.2.1, C.2.2.2.2.2.2.1.trans q.2.2⟩) wi hty hn hf (g := mkF m pc Ls (v :: .ref a :: S)) rfl rfl (hb C.2.2.2.1 hd)
  exact (K T' h' X' e' W' (F.same W')).via st
theorem Go.putFN (C : Cx p s m meth c Z own nm bytes maxL ret) (X : Stand p l e R s m args below meth c T locs cells slots) {idx kk : Nat} {R0 O n d K1 : String} {a : Addr} {v v' old : Value} {ty : FieldType} (w : (Cond.fieldLink own idx R0 n d).before a0 Z = true) (via : Via Z R0 O n d) (eT : T.heap = h) (F : Fld Z h a O n d old) (E : Exa Z h a K1) (L : (Cond.lays K1 O n d).before a0 Z = true ∨ ((Cond.laysFinal K1 O n d).before a0 Z = true ∧ own = O ∧ nm = "<init>")) (wi : (Cond.instantiable K1 kk).before a0 Z = true) (hty : parseFieldDescriptor d = some ty) (hn : narrow ty v = v') (hf : fits ty v' = true) (hd : decode bytes pc = .ok (.putfield idx, 3)) (hp : pc + 3 = pc')
    (K : ∀ T' h', Stand p l e R s m args below meth c T' (locs ++ [⟨a, slotOf Z O n d⟩]) cells slots → T'.heap = h' → Wr h h' a (slotOf Z O n d) v' → Fld Z h' a O n d v' → Go p e below Fin' T' (mkF m pc' Ls S)) : Go p e below Fin' T (mkF m pc Ls (v :: .ref a :: S)) := by
  subst hp
  obtain ⟨T', h', X', e', W', st⟩ := Jvm.RoadKit.putFN X C.1 C.2.1 C.2.2.1 w via eT F E (L.imp id fun q => ⟨q.1, q.2.1, C.2.2.2.2.2.2.1.trans q.2.2⟩) wi hty hn hf (g := mkF m pc Ls (v :: .ref a :: S)) rfl rfl (hb C.2.2.2.1 hd)
  exact (K T' h' X' e' W' (F.same W')).via st
theorem Go.newO (C : Cx p s m meth c Z own nm bytes maxL ret) (X : Stand p l e R s m args below meth c T locs cells slots) {idx n : Nat} {K1 : String} (w : (Cond.classLink own idx K1).before a0 Z = true) (wi : (Cond.instantiable K1 n).before a0 Z = true) (wz : (Cond.initialized K1).before a0 Z = true) (eT : T.heap = h) (hc : cells + 1 ≤ R.cells) (hl : slots + n ≤ R.slots) (hd : decode bytes pc = .ok (.new idx, 3)) (hp : pc + 3 = pc')
    (K : ∀ T' h' b, Stand p l e R s m args below meth c T' locs (cells + 1) (slots + n) → T'.heap = h' → b = h.size → Ext h h' → Exa Z h' b K1 → (∀ {O nm d : String} {ty : FieldType}, Laid Z a0 K1 O nm d → parseFieldDescriptor d = some ty → Fld Z h' b O nm d (defaultValue ty)) → Go p e below Fin' T' (mkF m pc' Ls (.ref b :: S))) : Go p e below Fin' T (mkF m pc Ls S) := by
  subst hp
  obtain ⟨T', h', X', e', E', A', D', -, st⟩ := Jvm.RoadKit.newO X C.1 C.2.1 C.2.2.1 w wi wz eT (g := mkF m pc Ls S) rfl (hb C.2.2.2.1 hd) hc hl
  exact (K T' h' h.size X' e' rfl E' A' D').via st
theorem Go.newP (C : Cx p s m meth c Z own nm bytes maxL ret) (X : Stand p l e R s m args below meth c T locs cells slots) {aty : ArrayType} {n : Int32} {cap : Nat} {vs : List Value} {ad : String} (had : "[" ++ (newarray.typeOf aty).toString = ad) (w : (Cond.arrayClass (newarray.typeOf aty)).before a0 Z = true) (eT : T.heap = h) (hn : ¬ n < 0) (hcap : n.toNatClampNeg ≤ cap) (hb8 : cap * 8 ≤ 536870912) (hc : cells + 1 ≤ R.cells) (hl : slots + cap ≤ R.slots) (hvs : List.replicate n.toNatClampNeg (defaultValue (newarray.typeOf aty)) = vs) (hd : decode bytes pc = .ok (.newarray aty, 2)) (hp : pc + 2 = pc')
    (K : ∀ T' h' b k, Stand p l e R s m args below meth c T' locs (cells + 1) (slots + cap) → T'.heap = h' → b = h.size → Ext h h' → AL Z h' b k (newarray.typeOf aty) vs → Exa Z h' b ad → Go p e below Fin' T' (mkF m pc' Ls (.ref b :: S))) : Go p e below Fin' T (mkF m pc Ls (.int n :: S)) := by
  subst hp
  obtain ⟨T', h', k, X', e', E', A', E2, st⟩ := Jvm.RoadKit.newPE X C.1 C.2.1 w eT (g := mkF m pc Ls (.int n :: S)) rfl (hb C.2.2.2.1 hd) rfl hn hcap hb8 hc hl had
  exact (K T' h' h.size k X' e' rfl E' (hvs ▸ AL.new A') E2).via st
theorem Go.newR (C : Cx p s m meth c Z own nm bytes maxL ret) (X : Stand p l e R s m args below meth c T locs cells slots) {idx : Nat} {K1 ad : String} {n : Int32} {cap : Nat} {vs : List Value} (had : "[" ++ (FieldType.object K1).toString = ad) (w : (Cond.classLink own idx K1).before a0 Z = true) (w2 : (Cond.arrayOver (.object K1)).before a0 Z = true) (eT : T.heap = h) (hn : ¬ n < 0) (hcap : n.toNatClampNeg ≤ cap) (hb8 : cap * 8 ≤ 536870912) (hc : cells + 1 ≤ R.cells) (hl : slots + cap ≤ R.slots) (hvs : List.replicate n.toNatClampNeg (defaultValue (.object K1)) = vs) (hd : decode bytes pc = .ok (.anewarray idx, 3)) (hp : pc + 3 = pc')
    (K : ∀ T' h' b k, Stand p l e R s m args below meth c T' locs (cells + 1) (slots + cap) → T'.heap = h' → b = h.size → Ext h h' → AL Z h' b k (.object K1) vs → Exa Z h' b ad → Ovr Z k K1 → Go p e below Fin' T' (mkF m pc' Ls (.ref b :: S))) : Go p e below Fin' T (mkF m pc Ls (.int n :: S)) := by
  subst hp
  obtain ⟨T', h', k, X', e', E', A', E2, O', st⟩ := Jvm.RoadKit.newRE X C.1 C.2.1 C.2.2.1 w w2 eT (g := mkF m pc Ls (.int n :: S)) rfl (hb C.2.2.2.1 hd) rfl hn hcap hb8 hc hl had
  exact (K T' h' h.size k X' e' rfl E' (hvs ▸ AL.new A') E2 O').via st
theorem Go.newRA (C : Cx p s m meth c Z own nm bytes maxL ret) (X : Stand p l e R s m args below meth c T locs cells slots) {idx : Nat} {K1 ad : String} {ty : FieldType} {n : Int32} {cap : Nat} {vs : List Value} (hC : (FieldType.array ty).toString = K1) (had : "[" ++ K1 = ad) (w : (Cond.classLink own idx K1).before a0 Z = true) (w2 : (Cond.arrayOver (.array ty)).before a0 Z = true) (eT : T.heap = h) (hn : ¬ n < 0) (hcap : n.toNatClampNeg ≤ cap) (hb8 : cap * 8 ≤ 536870912) (hc : cells + 1 ≤ R.cells) (hl : slots + cap ≤ R.slots) (hvs : List.replicate n.toNatClampNeg (defaultValue (.array ty)) = vs) (hd : decode bytes pc = .ok (.anewarray idx, 3)) (hp : pc + 3 = pc')
    (K : ∀ T' h' b k, Stand p l e R s m args below meth c T' locs (cells + 1) (slots + cap) → T'.heap = h' → b = h.size → Ext h h' → AL Z h' b k (.array ty) vs → Exa Z h' b ad → OvrA Z k ty K1 → Go p e below Fin' T' (mkF m pc' Ls (.ref b :: S))) : Go p e below Fin' T (mkF m pc Ls (.int n :: S)) := by
  subst hp
  obtain ⟨T', h', k, X', e', E', A', E2, O', st⟩ := Jvm.RoadKit.newRA X C.1 C.2.1 C.2.2.1 hC w w2 eT (g := mkF m pc Ls (.int n :: S)) rfl (hb C.2.2.2.1 hd) rfl hn hcap hb8 hc hl had
  exact (K T' h' h.size k X' e' rfl E' (hvs ▸ AL.new A') E2 O').via st
theorem AL.stoA {a y : Addr} {k : ClassId} {t0 ty : FieldType} {vs : List Value} {K1 : String} (F : AL Z h a k t0 vs) (O : OvrA Z k ty K1) (I : Ins Z h y K1 true) : Sto Z h a (.ref y) := by
  obtain ⟨c, A, r, -⟩ := F; exact Sto.ofVA A r O I
theorem Go.getFR (C : Cx p s m meth c Z own nm bytes maxL ret) (X : Stand p l e R s m args below meth c T locs cells slots) {idx : Nat} {O n d : String} {a : Addr} {v : Value} (w : (Cond.fieldRef own idx O n d).before a0 Z = true) (eT : T.heap = h) (F : Fld Z h a O n d v) (hd : decode bytes pc = .ok (.getfield idx, 3)) (hp : pc + 3 = pc')
    (K : Go p e below Fin' T (mkF m pc' Ls (v :: S))) : Go p e below Fin' T (mkF m pc Ls (.ref a :: S)) := by
  subst hp
  obtain ⟨cell, cf, k, i, f, h1, h2, h3, h4, -, -, h7⟩ := F
  have hZT : Z.Warmed39 T.vm := wtrans C.2.1 X.warmed
  have w' : (Cond.fieldRef own idx O n d).before args T = true := (Cond.fieldRef_warmed39 hZT w :)
  have hown : T.vm.findClass own = some m.cls := by rw [X.warmed.alike.findClass]; exact C.2.2.1
  obtain ⟨c', k', i', f', e1, hr⟩ := Cond.fieldRef_spec hown w'
  obtain ⟨k2, q1, -⟩ := State.fieldFound?_setVm (s := Z) hZT.alike h2
  have q1' : T.fieldFound? O n d = some (cf, k2, i, f) := q1
  cases q1'.symm.trans e1
  exact K.via fun t kt => (X.getfieldR C.1 (g := mkF m pc Ls (.ref a :: S)) rfl hr h3 rfl (by rw [eT]; exact h1) h4 h7 (hb C.2.2.2.1 hd) (Steps.refl _)).trans kt
theorem Go.clone (C : Cx p s m meth c Z own nm bytes maxL ret) (X : Stand p l e R s m args below meth c T locs cells slots) {idx : Nat} {ad : String} {a : Addr} {k : ClassId} {ty : FieldType} {vs : List Value} {W cap : Nat} (w1 : (Cond.methodLink own idx ⟨ad, "clone", "()Ljava/lang/Object;"⟩).before a0 Z = true) (w2 : (Cond.sameMethod ad "java/lang/Object" "clone" "()Ljava/lang/Object;").before a0 Z = true) (w3 : (Cond.native ⟨"java/lang/Object", "clone", "()Ljava/lang/Object;"⟩).before a0 Z = true) (w4 : (Cond.instanceMethod ⟨"java/lang/Object", "clone", "()Ljava/lang/Object;"⟩).before a0 Z = true) (w5 : (Cond.selects ad ⟨ad, "clone", "()Ljava/lang/Object;"⟩ ⟨"java/lang/Object", "clone", "()Ljava/lang/Object;"⟩).before a0 Z = true) (w6 : (Cond.castable ad "java/lang/Cloneable").before a0 Z = true) (eT : T.heap = h) (F : AL Z h a k ty vs) (E : Exa Z h a ad) (hfit : ∀ v ∈ vs, fits ty v = true) (hls : Ls.size = maxL) (hf : 1 ≤ R.frames) (hW : (S.map fun v => v.category).sum ≤ W) (hlo : W + 14 ≤ R.locals) (hcap : vs.length ≤ cap) (hc : cells + 1 ≤ R.cells) (hsl : slots + cap ≤ R.slots) (hd : decode bytes pc = .ok (.invokevirtual idx, 3)) (hp : pc + 3 = pc')
    (K : ∀ T' h' b, Stand p l e R s m args below meth c T' locs (cells + 1) (slots + cap) → T'.heap = h' → b = h.size → Ext h h' → AL Z h' b k ty vs → Exa Z h' b ad → Go p e below Fin' T' (mkF m pc' Ls (.ref b :: S))) : Go p e below Fin' T (mkF m pc Ls (.ref a :: S)) := by
  subst hp
  obtain ⟨cl, A, q1, q2⟩ := F
  have FC : FitC Z cl := fitC_of A fun i hi v hv => by
    rw [q2] at hv
    exact hfit v (List.mem_of_getElem? (by simpa using hv))
  have hsz : cl.slots.size = vs.length := by rw [q2]; simp
  obtain ⟨T', h', X', e', ex, A', E', st⟩ := cloneA X C.1 C.2.1 C.2.2.1 w1 w2 w3 w4 w5 w6 eT A E FC (g := mkF m pc Ls (.ref a :: S)) rfl (by show Ls.size = _; rw [C.2.2.2.2.1]; exact hls) rfl (hb C.2.2.2.1 hd) hf (W := W) (by show 2 * 0 + _ ≤ _; omega) hlo (cap := cap) (by omega) hc hsl
  exact (K T' h' h.size X' e' rfl ex ⟨cloneOf cl, A', q1, q2⟩ E').via st
theorem range_drop (vs : List Value) (dv : Value) (i n : Nat) (hn : i + n ≤ vs.length) : ((List.range n).map fun j => vs.getD (i + j) dv) = (vs.drop i).take n := by
  apply List.ext_getElem
  · simp; omega
  · intro j h1 h2
    have h3 : i + j < vs.length := by simp at h1; omega
    simp [List.getD, List.getElem?_eq_getElem h3]
theorem Go.arrcopy (C : Cx p s m meth c Z own nm bytes maxL ret) (X : Stand p l e R s m args below meth c T locs cells slots) {idx : Nat} {a b : Addr} {k k' : ClassId} {ty ty' : FieldType} {vs vd vd' : List Value} {sp dp nn : Int32} {i j n W : Nat} (w1 : (Cond.methodLink own idx Jvm.Stand.acN).before a0 Z = true) (w2 : (Cond.native Jvm.Stand.acN).before a0 Z = true) (w3 : (Cond.static Jvm.Stand.acN).before a0 Z = true) (w4 : (Cond.initialized "java/lang/System").before a0 Z = true) (eT : T.heap = h) (A : AL Z h a k ty vs) (B : AL Z h b k' ty' vd) (hfa : ∀ v ∈ vs, fits ty v = true) (hfb : ∀ v ∈ vd, fits ty' v = true) (hla : vs.length < 2 ^ 31) (hlb : vd.length < 2 ^ 31) (hty : (ty = ty' ∧ refKind ty = false) ∨ (refKind ty = true ∧ refKind ty' = true ∧ StoL Z h b ((vs.drop i).take n))) (h1 : ¬ sp < 0) (h2 : ¬ dp < 0) (h3 : ¬ nn < 0) (hi : sp.toNatClampNeg = i) (hj : dp.toNatClampNeg = j) (hn : nn.toNatClampNeg = n) (h4 : i + n ≤ vs.length) (h5 : j + n ≤ vd.length) (hvd : vd.take j ++ (vs.drop i).take n ++ vd.drop (j + n) = vd') {n0 : Nat} (N : Fr n0 locs) (ge : n0 ≤ b) (hls : Ls.size = maxL) (hf : 1 ≤ R.frames) (hW : (S.map fun v => v.category).sum ≤ W) (hlo : W + (nativeFrameWords "java/lang/System" "arraycopy" 5 + 11) ≤ R.locals) (hd : decode bytes pc = .ok (.invokestatic idx, 3)) (hp : pc + 3 = pc')
    (K : ∀ T' h' L, Stand p l e R s m args below meth c T' L cells slots → T'.heap = h' → Fr n0 L → Keep h h' [b] → AL Z h' b k' ty' vd' → Go p e below Fin' T' (mkF m pc' Ls S)) : Go p e below Fin' T (mkF m pc Ls (.int nn :: .int dp :: .ref b :: .int sp :: .ref a :: S)) := by
  subst hp
  subst hi hj hn hvd
  have za : vs.length.toInt32.toNatClampNeg = vs.length := by simp only [Int32.toNatClampNeg, len_toInt hla]; omega
  have zb : vd.length.toInt32.toNatClampNeg = vd.length := by simp only [Int32.toNatClampNeg, len_toInt hlb]; omega
  have na : ¬ vs.length.toInt32 < 0 := by simp only [Int32.lt_iff_toInt_lt, len_toInt hla, Int32.reduceToInt]; omega
  have nb : ¬ vd.length.toInt32 < 0 := by simp only [Int32.lt_iff_toInt_lt, len_toInt hlb, Int32.reduceToInt]; omega
  have A' : Arv Z h a k ty vs.length.toInt32 vs .null := A.arv na za hfa
  have B' : Arv Z h b k' ty' vd.length.toInt32 vd .null := B.arv nb zb hfb
  obtain ⟨T', h', L, X', e', N', K', R', st⟩ := cpA X C.1 C.2.1 C.2.2.1 w1 w2 w3 w4 eT A' B' hty h1 h2 h3 (by rw [za]; exact h4) (by rw [zb]; exact h5) (range_drop vs .null _ _ h4).symm h5 N ge (g := mkF m pc Ls (.int nn :: .int dp :: .ref b :: .int sp :: .ref a :: S)) rfl (by show Ls.size = _; rw [C.2.2.2.2.1]; exact hls) rfl (hb C.2.2.2.1 hd) hf (W := W) (by show 2 * 0 + _ ≤ _; omega) hlo
  exact (K T' h' L X' e' N' K' (AL.of_arv R' (by rw [zb]; simp; omega))).via st
theorem Go.castY (C : Cx p s m meth c Z own nm bytes maxL ret) (X : Stand p l e R s m args below meth c T locs cells slots) {idx : Nat} {K1 : String} {a : Addr} (w : (Cond.classLink own idx K1).before a0 Z = true) (eT : T.heap = h) (F : Ins Z h a K1 true) (hd : decode bytes pc = .ok (.checkcast idx, 3)) (hp : pc + 3 = pc')
    (K : ∀ T', Stand p l e R s m args below meth c T' locs cells slots → T'.heap = h → Go p e below Fin' T' (mkF m pc' Ls (.ref a :: S))) : Go p e below Fin' T (mkF m pc Ls (.ref a :: S)) := by
  subst hp
  obtain ⟨T', X', e', st⟩ := Jvm.RoadKit.castY X C.1 C.2.1 C.2.2.1 w eT F (g := mkF m pc Ls (.ref a :: S)) rfl rfl (hb C.2.2.2.1 hd)
  exact (K T' X' e').via st
theorem Go.instY (C : Cx p s m meth c Z own nm bytes maxL ret) (X : Stand p l e R s m args below meth c T locs cells slots) {idx : Nat} {K1 : String} {a : Addr} (w : (Cond.classLink own idx K1).before a0 Z = true) (eT : T.heap = h) (F : Ins Z h a K1 true) (hd : decode bytes pc = .ok (.instanceof idx, 3)) (hp : pc + 3 = pc')
    (K : ∀ T', Stand p l e R s m args below meth c T' locs cells slots → T'.heap = h → Go p e below Fin' T' (mkF m pc' Ls (.int 1 :: S))) : Go p e below Fin' T (mkF m pc Ls (.ref a :: S)) := by
  subst hp
  obtain ⟨T', X', e', st⟩ := Jvm.RoadKit.instY X C.1 C.2.1 C.2.2.1 w eT F (g := mkF m pc Ls (.ref a :: S)) rfl rfl (hb C.2.2.2.1 hd)
  exact (K T' X' e').via st
theorem Go.instNo (C : Cx p s m meth c Z own nm bytes maxL ret) (X : Stand p l e R s m args below meth c T locs cells slots) {idx : Nat} {K1 K2 : String} {a : Addr} (w : (Cond.classLink own idx K1).before a0 Z = true) (eT : T.heap = h) (E : Exa Z h a K2) (F : ∃ c t, Z.vm.findClass K2 = some c ∧ Z.vm.findClass K1 = some t ∧ Z.vm.assignable c t = false) (hd : decode bytes pc = .ok (.instanceof idx, 3)) (hp : pc + 3 = pc')
    (K : ∀ T', Stand p l e R s m args below meth c T' locs cells slots → T'.heap = h → Go p e below Fin' T' (mkF m pc' Ls (.int 0 :: S))) : Go p e below Fin' T (mkF m pc Ls (.ref a :: S)) := by
  subst hp
  obtain ⟨T', X', e', st⟩ := Jvm.RoadKit.instNo X C.1 C.2.1 C.2.2.1 w eT E F (g := mkF m pc Ls (.ref a :: S)) rfl rfl (hb C.2.2.2.1 hd)
  exact (K T' X' e').via st
theorem Go.castNull (C : Cx p s m meth c Z own nm bytes maxL ret) (X : Stand p l e R s m args below meth c T locs cells slots) {idx : Nat}  (hd : decode bytes pc = .ok (.checkcast idx, 3)) (hp : pc + 3 = pc')
    (K : Go p e below Fin' T (mkF m pc' Ls (.null :: S))) : Go p e below Fin' T (mkF m pc Ls (.null :: S)) := by
  subst hp
  exact K.via (X.checkcastNull C.1 (g := mkF m pc Ls (.null :: S)) rfl rfl (hb C.2.2.2.1 hd))
theorem Go.instNull (C : Cx p s m meth c Z own nm bytes maxL ret) (X : Stand p l e R s m args below meth c T locs cells slots) {idx : Nat}  (hd : decode bytes pc = .ok (.instanceof idx, 3)) (hp : pc + 3 = pc')
    (K : Go p e below Fin' T (mkF m pc' Ls (.int 0 :: S))) : Go p e below Fin' T (mkF m pc Ls (.null :: S)) := by
  subst hp
  exact K.via (X.instanceofNull C.1 (g := mkF m pc Ls (.null :: S)) rfl rfl (hb C.2.2.2.1 hd))
theorem Go.stI (C : Cx p s m meth c Z own nm bytes maxL ret) (X : Stand p l e R s m args below meth c T locs cells slots) {a : Addr} {k : ClassId} {vs vs' : List Value} {j : Int32} {i : Nat} {x x' : Int32} (eT : T.heap = h) (F : AL Z h a k .int vs) (hj : ¬ j < 0) (hji : j.toNatClampNeg = i) (hi : i < vs.length) (hx : x = x') (hvs : vs.set i (.int x') = vs') (hd : decode bytes pc = .ok (.iastore, 1)) (hp : pc + 1 = pc')
    (K : ∀ T' h', Stand p l e R s m args below meth c T' (locs ++ [⟨a, i⟩]) cells slots → T'.heap = h' → Wr h h' a i (.int x') → AL Z h' a k .int vs' → Go p e below Fin' T' (mkF m pc' Ls S)) : Go p e below Fin' T (mkF m pc Ls (.int x :: .int j :: .ref a :: S)) := by
  subst hp
  subst hji hvs hx
  have F0 := F
  obtain ⟨cl, A, q1, q2⟩ := F
  obtain ⟨T', h', X', e', W', st⟩ := Jvm.RoadKit.stI X C.1 C.2.1 eT A (j := j) (fun q => q.elim hj fun y => by rw [q2] at y; simp at y; omega) (g := mkF m pc Ls (.int x :: .int j :: .ref a :: S)) rfl rfl (hb C.2.2.2.1 hd)
  exact (K T' h' X' e' W' (F0.set W')).via st
theorem Go.stC (C : Cx p s m meth c Z own nm bytes maxL ret) (X : Stand p l e R s m args below meth c T locs cells slots) {a : Addr} {k : ClassId} {vs vs' : List Value} {j : Int32} {i : Nat} {x x' : Int32} (eT : T.heap = h) (F : AL Z h a k .char vs) (hj : ¬ j < 0) (hji : j.toNatClampNeg = i) (hi : i < vs.length) (hx : (nar .char x) = x') (hvs : vs.set i (.int x') = vs') (hd : decode bytes pc = .ok (.castore, 1)) (hp : pc + 1 = pc')
    (K : ∀ T' h', Stand p l e R s m args below meth c T' (locs ++ [⟨a, i⟩]) cells slots → T'.heap = h' → Wr h h' a i (.int x') → AL Z h' a k .char vs' → Go p e below Fin' T' (mkF m pc' Ls S)) : Go p e below Fin' T (mkF m pc Ls (.int x :: .int j :: .ref a :: S)) := by
  subst hp
  subst hji hvs hx
  have F0 := F
  obtain ⟨cl, A, q1, q2⟩ := F
  obtain ⟨T', h', X', e', W', st⟩ := Jvm.RoadKit.stC X C.1 C.2.1 eT A (j := j) (fun q => q.elim hj fun y => by rw [q2] at y; simp at y; omega) (g := mkF m pc Ls (.int x :: .int j :: .ref a :: S)) rfl rfl (hb C.2.2.2.1 hd)
  exact (K T' h' X' e' W' (F0.set W')).via st
theorem Go.stS (C : Cx p s m meth c Z own nm bytes maxL ret) (X : Stand p l e R s m args below meth c T locs cells slots) {a : Addr} {k : ClassId} {vs vs' : List Value} {j : Int32} {i : Nat} {x x' : Int32} (eT : T.heap = h) (F : AL Z h a k .short vs) (hj : ¬ j < 0) (hji : j.toNatClampNeg = i) (hi : i < vs.length) (hx : (nar .short x) = x') (hvs : vs.set i (.int x') = vs') (hd : decode bytes pc = .ok (.sastore, 1)) (hp : pc + 1 = pc')
    (K : ∀ T' h', Stand p l e R s m args below meth c T' (locs ++ [⟨a, i⟩]) cells slots → T'.heap = h' → Wr h h' a i (.int x') → AL Z h' a k .short vs' → Go p e below Fin' T' (mkF m pc' Ls S)) : Go p e below Fin' T (mkF m pc Ls (.int x :: .int j :: .ref a :: S)) := by
  subst hp
  subst hji hvs hx
  have F0 := F
  obtain ⟨cl, A, q1, q2⟩ := F
  obtain ⟨T', h', X', e', W', st⟩ := Jvm.RoadKit.stS X C.1 C.2.1 eT A (j := j) (fun q => q.elim hj fun y => by rw [q2] at y; simp at y; omega) (g := mkF m pc Ls (.int x :: .int j :: .ref a :: S)) rfl rfl (hb C.2.2.2.1 hd)
  exact (K T' h' X' e' W' (F0.set W')).via st
theorem Go.stB (C : Cx p s m meth c Z own nm bytes maxL ret) (X : Stand p l e R s m args below meth c T locs cells slots) {a : Addr} {k : ClassId} {vs vs' : List Value} {j : Int32} {i : Nat} {x x' : Int32} (eT : T.heap = h) (F : AL Z h a k .byte vs) (hj : ¬ j < 0) (hji : j.toNatClampNeg = i) (hi : i < vs.length) (hx : (nar .byte x) = x') (hvs : vs.set i (.int x') = vs') (hd : decode bytes pc = .ok (.bastore, 1)) (hp : pc + 1 = pc')
    (K : ∀ T' h', Stand p l e R s m args below meth c T' (locs ++ [⟨a, i⟩]) cells slots → T'.heap = h' → Wr h h' a i (.int x') → AL Z h' a k .byte vs' → Go p e below Fin' T' (mkF m pc' Ls S)) : Go p e below Fin' T (mkF m pc Ls (.int x :: .int j :: .ref a :: S)) := by
  subst hp
  subst hji hvs hx
  have F0 := F
  obtain ⟨cl, A, q1, q2⟩ := F
  obtain ⟨T', h', X', e', W', st⟩ := Jvm.RoadKit.stB X C.1 C.2.1 eT A (j := j) (fun q => q.elim hj fun y => by rw [q2] at y; simp at y; omega) (g := mkF m pc Ls (.int x :: .int j :: .ref a :: S)) rfl rfl (hb C.2.2.2.1 hd)
  exact (K T' h' X' e' W' (F0.set W')).via st
theorem Go.stZ (C : Cx p s m meth c Z own nm bytes maxL ret) (X : Stand p l e R s m args below meth c T locs cells slots) {a : Addr} {k : ClassId} {vs vs' : List Value} {j : Int32} {i : Nat} {x x' : Int32} (eT : T.heap = h) (F : AL Z h a k .boolean vs) (hj : ¬ j < 0) (hji : j.toNatClampNeg = i) (hi : i < vs.length) (hx : (nar .boolean x) = x') (hvs : vs.set i (.int x') = vs') (hd : decode bytes pc = .ok (.bastore, 1)) (hp : pc + 1 = pc')
    (K : ∀ T' h', Stand p l e R s m args below meth c T' (locs ++ [⟨a, i⟩]) cells slots → T'.heap = h' → Wr h h' a i (.int x') → AL Z h' a k .boolean vs' → Go p e below Fin' T' (mkF m pc' Ls S)) : Go p e below Fin' T (mkF m pc Ls (.int x :: .int j :: .ref a :: S)) := by
  subst hp
  subst hji hvs hx
  have F0 := F
  obtain ⟨cl, A, q1, q2⟩ := F
  obtain ⟨T', h', X', e', W', st⟩ := Jvm.RoadKit.stZ X C.1 C.2.1 eT A (j := j) (fun q => q.elim hj fun y => by rw [q2] at y; simp at y; omega) (g := mkF m pc Ls (.int x :: .int j :: .ref a :: S)) rfl rfl (hb C.2.2.2.1 hd)
  exact (K T' h' X' e' W' (F0.set W')).via st
theorem Go.stJ (C : Cx p s m meth c Z own nm bytes maxL ret) (X : Stand p l e R s m args below meth c T locs cells slots) {a : Addr} {k : ClassId} {vs vs' : List Value} {j : Int32} {i : Nat} {x x' : Int64} (eT : T.heap = h) (F : AL Z h a k .long vs) (hj : ¬ j < 0) (hji : j.toNatClampNeg = i) (hi : i < vs.length) (hx : x = x') (hvs : vs.set i (.long x') = vs') (hd : decode bytes pc = .ok (.lastore, 1)) (hp : pc + 1 = pc')
    (K : ∀ T' h', Stand p l e R s m args below meth c T' (locs ++ [⟨a, i⟩]) cells slots → T'.heap = h' → Wr h h' a i (.long x') → AL Z h' a k .long vs' → Go p e below Fin' T' (mkF m pc' Ls S)) : Go p e below Fin' T (mkF m pc Ls (.long x :: .int j :: .ref a :: S)) := by
  subst hp
  subst hji hvs hx
  have F0 := F
  obtain ⟨cl, A, q1, q2⟩ := F
  obtain ⟨T', h', X', e', W', st⟩ := Jvm.RoadKit.stJ X C.1 C.2.1 eT A (j := j) (fun q => q.elim hj fun y => by rw [q2] at y; simp at y; omega) (g := mkF m pc Ls (.long x :: .int j :: .ref a :: S)) rfl rfl (hb C.2.2.2.1 hd)
  exact (K T' h' X' e' W' (F0.set W')).via st
theorem Go.stR (C : Cx p s m meth c Z own nm bytes maxL ret) (X : Stand p l e R s m args below meth c T locs cells slots) {a : Addr} {k : ClassId} {ty : FieldType} {vs vs' : List Value} {j : Int32} {i : Nat} {v : Value} (eT : T.heap = h) (F : AL Z h a k ty vs) (hj : ¬ j < 0) (hji : j.toNatClampNeg = i) (hi : i < vs.length) (hty : ty.isReference = true) (Fs : Sto Z h a v) (hvs : vs.set i v = vs') (hd : decode bytes pc = .ok (.aastore, 1)) (hp : pc + 1 = pc')
    (K : ∀ T' h', Stand p l e R s m args below meth c T' (locs ++ [⟨a, i⟩]) cells slots → T'.heap = h' → Wr h h' a i v → AL Z h' a k ty vs' → Go p e below Fin' T' (mkF m pc' Ls S)) : Go p e below Fin' T (mkF m pc Ls (v :: .int j :: .ref a :: S)) := by
  subst hp
  subst hji hvs
  have F0 := F
  obtain ⟨cl, A, q1, q2⟩ := F
  obtain ⟨T', h', X', e', W', st⟩ := Jvm.RoadKit.stR X C.1 C.2.1 eT A (j := j) (fun q => q.elim hj fun y => by rw [q2] at y; simp at y; omega) hty Fs (g := mkF m pc Ls (v :: .int j :: .ref a :: S)) rfl rfl (hb C.2.2.2.1 hd)
  exact (K T' h' X' e' W' (F0.set W')).via st
theorem AL.sto {a y : Addr} {k : ClassId} {ty : FieldType} {vs : List Value} {K1 : String} (F : AL Z h a k ty vs) (O : Ovr Z k K1) (I : Ins Z h y K1 true) : Sto Z h a (.ref y) := by
  obtain ⟨c, A, r, -⟩ := F; exact Sto.ofV A r O I
theorem Go.ldI (C : Cx p s m meth c Z own nm bytes maxL ret) (X : Stand p l e R s m args below meth c T locs cells slots) {a : Addr} {k : ClassId} {vs : List Value} {j : Int32} {i : Nat} {v : Value} (eT : T.heap = h) (F : AL Z h a k .int vs) (hj : ¬ j < 0) (hji : j.toNatClampNeg = i) (hv : vs[i]? = some v) (hd : decode bytes pc = .ok (.iaload, 1)) (hp : pc + 1 = pc')
    (K : Go p e below Fin' T (mkF m pc' Ls (v :: S))) : Go p e below Fin' T (mkF m pc Ls (.int j :: .ref a :: S)) := by
  subst hp
  subst hji
  obtain ⟨cl, A, q1, q2⟩ := F
  have hlt : j.toNatClampNeg < vs.length := (List.getElem?_eq_some_iff.mp hv).1
  exact K.via fun t k => X.iaload C.1 (j := j) (v := v) (by rw [eT]; exact A.1) (State.isArrayOf_alike C.2.1.alike A.2.1) A.2.2 (fun q => q.elim hj fun y => by rw [q2] at y; simp at y; omega) (by rw [q2]; simpa using hv) (g := mkF m pc Ls (.int j :: .ref a :: S)) rfl rfl (hb C.2.2.2.1 hd) t k
theorem Go.ldC (C : Cx p s m meth c Z own nm bytes maxL ret) (X : Stand p l e R s m args below meth c T locs cells slots) {a : Addr} {k : ClassId} {vs : List Value} {j : Int32} {i : Nat} {v : Value} (eT : T.heap = h) (F : AL Z h a k .char vs) (hj : ¬ j < 0) (hji : j.toNatClampNeg = i) (hv : vs[i]? = some v) (hd : decode bytes pc = .ok (.caload, 1)) (hp : pc + 1 = pc')
    (K : Go p e below Fin' T (mkF m pc' Ls (v :: S))) : Go p e below Fin' T (mkF m pc Ls (.int j :: .ref a :: S)) := by
  subst hp
  subst hji
  obtain ⟨cl, A, q1, q2⟩ := F
  have hlt : j.toNatClampNeg < vs.length := (List.getElem?_eq_some_iff.mp hv).1
  exact K.via fun t k => X.caload C.1 (j := j) (v := v) (by rw [eT]; exact A.1) (State.isArrayOf_alike C.2.1.alike A.2.1) A.2.2 (fun q => q.elim hj fun y => by rw [q2] at y; simp at y; omega) (by rw [q2]; simpa using hv) (g := mkF m pc Ls (.int j :: .ref a :: S)) rfl rfl (hb C.2.2.2.1 hd) t k
theorem Go.ldB (C : Cx p s m meth c Z own nm bytes maxL ret) (X : Stand p l e R s m args below meth c T locs cells slots) {a : Addr} {k : ClassId} {vs : List Value} {j : Int32} {i : Nat} {v : Value} (eT : T.heap = h) (F : AL Z h a k .byte vs) (hj : ¬ j < 0) (hji : j.toNatClampNeg = i) (hv : vs[i]? = some v) (hd : decode bytes pc = .ok (.baload, 1)) (hp : pc + 1 = pc')
    (K : Go p e below Fin' T (mkF m pc' Ls (v :: S))) : Go p e below Fin' T (mkF m pc Ls (.int j :: .ref a :: S)) := by
  subst hp
  subst hji
  obtain ⟨cl, A, q1, q2⟩ := F
  have hlt : j.toNatClampNeg < vs.length := (List.getElem?_eq_some_iff.mp hv).1
  exact K.via fun t k => X.baloadBytes C.1 (j := j) (v := v) (by rw [eT]; exact A.1) (State.isArrayOf_alike C.2.1.alike A.2.1) A.2.2 (fun q => q.elim hj fun y => by rw [q2] at y; simp at y; omega) (by rw [q2]; simpa using hv) (g := mkF m pc Ls (.int j :: .ref a :: S)) rfl rfl (hb C.2.2.2.1 hd) t k
theorem Go.ldZ (C : Cx p s m meth c Z own nm bytes maxL ret) (X : Stand p l e R s m args below meth c T locs cells slots) {a : Addr} {k : ClassId} {vs : List Value} {j : Int32} {i : Nat} {v : Value} (eT : T.heap = h) (F : AL Z h a k .boolean vs) (hj : ¬ j < 0) (hji : j.toNatClampNeg = i) (hv : vs[i]? = some v) (hd : decode bytes pc = .ok (.baload, 1)) (hp : pc + 1 = pc')
    (K : Go p e below Fin' T (mkF m pc' Ls (v :: S))) : Go p e below Fin' T (mkF m pc Ls (.int j :: .ref a :: S)) := by
  subst hp
  subst hji
  obtain ⟨cl, A, q1, q2⟩ := F
  have hlt : j.toNatClampNeg < vs.length := (List.getElem?_eq_some_iff.mp hv).1
  exact K.via fun t k => X.baloadBooleans C.1 (j := j) (v := v) (by rw [eT]; exact A.1) (State.isArrayOf_alike C.2.1.alike A.2.1) A.2.2 (fun q => q.elim hj fun y => by rw [q2] at y; simp at y; omega) (by rw [q2]; simpa using hv) (g := mkF m pc Ls (.int j :: .ref a :: S)) rfl rfl (hb C.2.2.2.1 hd) t k
theorem Go.ldJ (C : Cx p s m meth c Z own nm bytes maxL ret) (X : Stand p l e R s m args below meth c T locs cells slots) {a : Addr} {k : ClassId} {vs : List Value} {j : Int32} {i : Nat} {v : Value} (eT : T.heap = h) (F : AL Z h a k .long vs) (hj : ¬ j < 0) (hji : j.toNatClampNeg = i) (hv : vs[i]? = some v) (hd : decode bytes pc = .ok (.laload, 1)) (hp : pc + 1 = pc')
    (K : Go p e below Fin' T (mkF m pc' Ls (v :: S))) : Go p e below Fin' T (mkF m pc Ls (.int j :: .ref a :: S)) := by
  subst hp
  subst hji
  obtain ⟨cl, A, q1, q2⟩ := F
  have hlt : j.toNatClampNeg < vs.length := (List.getElem?_eq_some_iff.mp hv).1
  exact K.via fun t k => X.laload C.1 (j := j) (v := v) (by rw [eT]; exact A.1) (State.isArrayOf_alike C.2.1.alike A.2.1) A.2.2 (fun q => q.elim hj fun y => by rw [q2] at y; simp at y; omega) (by rw [q2]; simpa using hv) (g := mkF m pc Ls (.int j :: .ref a :: S)) rfl rfl (hb C.2.2.2.1 hd) t k
theorem Go.ldR (C : Cx p s m meth c Z own nm bytes maxL ret) (X : Stand p l e R s m args below meth c T locs cells slots) {a : Addr} {k : ClassId} {vs : List Value} {j : Int32} {i : Nat} {v : Value} {ty : FieldType} (eT : T.heap = h) (F : AL Z h a k ty vs) (hj : ¬ j < 0) (hji : j.toNatClampNeg = i) (hv : vs[i]? = some v) (hty : ty.isReference = true) (hd : decode bytes pc = .ok (.aaload, 1)) (hp : pc + 1 = pc')
    (K : Go p e below Fin' T (mkF m pc' Ls (v :: S))) : Go p e below Fin' T (mkF m pc Ls (.int j :: .ref a :: S)) := by
  subst hp
  subst hji
  obtain ⟨cl, A, q1, q2⟩ := F
  have hlt : j.toNatClampNeg < vs.length := (List.getElem?_eq_some_iff.mp hv).1
  exact K.via fun t k => X.aaload C.1 (j := j) (v := v) (by rw [eT]; exact A.1) (State.isArrayOf_alike C.2.1.alike A.2.1) hty A.2.2 (fun q => q.elim hj fun y => by rw [q2] at y; simp at y; omega) (by rw [q2]; simpa using hv) (g := mkF m pc Ls (.int j :: .ref a :: S)) rfl rfl (hb C.2.2.2.1 hd) t k
theorem Go.alen (C : Cx p s m meth c Z own nm bytes maxL ret) (X : Stand p l e R s m args below meth c T locs cells slots) {a : Addr} {k : ClassId} {ty : FieldType} {vs : List Value} {z : Int32} (eT : T.heap = h) (F : AL Z h a k ty vs) (hz : vs.length.toInt32 = z) (hd : decode bytes pc = .ok (.arraylength, 1)) (hp : pc + 1 = pc')
    (K : Go p e below Fin' T (mkF m pc' Ls (.int z :: S))) : Go p e below Fin' T (mkF m pc Ls (.ref a :: S)) := by
  subst hp
  subst hz
  obtain ⟨cl, A, q1, q2⟩ := F
  have q3 : cl.slots.size = vs.length := by rw [q2]; simp
  refine K.via fun t k => X.arraylength C.1 (by rw [eT]; exact A.1) (State.isArrayOf_alike C.2.1.alike A.2.1) (g := mkF m pc Ls (.ref a :: S)) rfl rfl (hb C.2.2.2.1 hd) t ?_
  rw [q3]; exact k
theorem Go.ldcR (C : Cx p s m meth c Z own nm bytes maxL ret) (X : Stand p l e R s m args below meth c T locs cells slots) {idx : Nat} {text : String} {a : Addr} (w : (Cond.stringRef own idx text).before a0 Z = true) (L : Lit Z own idx a) (hd : decode bytes pc = .ok (.ldc idx, 2)) (hp : pc + 2 = pc')
    (K : Go p e below Fin' T (mkF m pc' Ls (.ref a :: S))) : Go p e below Fin' T (mkF m pc Ls S) := by
  subst hp
  exact K.via (Jvm.RoadKit.ldcR X C.1 C.2.1 C.2.2.1 w L (g := mkF m pc Ls S) rfl (hb C.2.2.2.1 hd))
/-! calls -/
theorem Go.initO (C : Cx p s m meth c Z own nm bytes maxL ret) (X : Stand p l e R s m args below meth c T locs cells slots) {idx : Nat} {a : Addr} (w1 : (Cond.methodLink own idx Lib.objectInit).before a0 Z = true) (w2 : (Cond.instanceMethod Lib.objectInit).before a0 Z = true) (w3 : (Cond.code Lib.objectInit ⟨#[0xb1]⟩ 1 none).before a0 Z = true) (eT : T.heap = h) (hls : Ls.size = maxL) (hf : 1 ≤ R.frames) {W : Nat} (hW : (S.map fun v => v.category).sum ≤ W) (hl : W + 12 ≤ R.locals) (hd : decode bytes pc = .ok (.invokespecial idx, 3)) (hp : pc + 3 = pc')
    (K : ∀ T', Stand p l e R s m args below meth c T' locs cells slots → T'.heap = h → Go p e below Fin' T' (mkF m pc' Ls S)) : Go p e below Fin' T (mkF m pc Ls (.ref a :: S)) := by
  subst hp
  obtain ⟨T', X', e', st⟩ := Jvm.RoadKit.initO X C.1 C.2.1 C.2.2.1 w1 w2 w3 eT (g := mkF m pc Ls (.ref a :: S)) rfl (by rw [C.2.2.2.2.1]; exact hls) rfl (hb C.2.2.2.1 hd) hf (W := W) (by show 2 * 0 + _ ≤ _; omega) hl
  exact (K T' X' e').via st
theorem Go.callS (C : Cx p s m meth c Z own nm bytes maxL ret) (X : Stand p l e R s m args below meth c T locs cells slots) {idx : Nat} {y : MethodName} {bytes' : ByteArray} {maxL' : Nat} {ret' : Option FieldType} {rm : Room} {as' : Array Value} {Q' : Option Value → Heap → List Loc → Prop} {argsL rest : List Value} {ps : List FieldType} {r : Option FieldType} {W : Nat} (w1 : (Cond.methodLink own idx y).before a0 Z = true) (w2 : (Cond.static y).before a0 Z = true) (hy : y.cls ≠ "java/lang/invoke/MethodHandle" ∧ y.cls ≠ "java/lang/invoke/VarHandle") (M : Met1 l Z y bytes' maxL' ret' rm as' h Q') (wc : (Cond.code y bytes' maxL' ret').before a0 Z = true) (wz : (Cond.initialized y.cls).before a0 Z = true) (eT : T.heap = h) (hS : S = argsL.reverse ++ rest) (has : (argsL).toArray = as') (pd : parseMethodDescriptor y.desc = some ⟨ps, r⟩) (hlen : argsL.length = ps.length) (hW : (rest.map fun v => v.category).sum ≤ W) (hls : Ls.size = maxL) (hf : rm.frames + 1 ≤ R.frames) (hlo : W + (maxL' + 11) + rm.locals ≤ R.locals) (hc : cells + rm.cells ≤ R.cells) (hs : slots + rm.slots ≤ R.slots) (hd : decode bytes pc = .ok (.invokestatic idx, 3)) (hp : pc + 3 = pc')
    (K : ∀ T' v L, Stand p l e R s m args below meth c T' (locs ++ L) (cells + rm.cells) (slots + rm.slots) → Q' v T'.heap L → Go p e below Fin' T' (mkF m pc' Ls (v.toList ++ rest))) : Go p e below Fin' T (mkF m pc Ls S) := by
  subst hp
  subst hS has
  obtain ⟨v, _, ⟨T', L', k', n'⟩, -, X', ⟨L, hQ, l', y', z'⟩, st⟩ := Jvm.LawKit.callS X C.1 (y := y) C.2.2.1 (mvT C.2.1 w1) (mvT C.2.1 w2) (mvT C.2.1 wz) (mvT C.2.1 wc) hy (backOf (W := W) (M []) C.2.1 wc wz hf hlo) (g := mkF m pc Ls (argsL.reverse ++ rest)) rfl (by show Ls.size = _; rw [C.2.2.2.2.1]; exact hls) (argsL := argsL) (rest := rest) (lenOf pd hlen) rfl (by show 2 * 0 + _ ≤ _; omega) (hb C.2.2.2.1 hd) (fun _ _ => ⟨rfl, eT, hc, hs⟩)
  dsimp only [Pt.U, Pt.locs, Pt.cells, Pt.slots] at X' l' y' z' st hQ
  subst l' y' z'
  exact (K T' v L X' hQ).via st
theorem Go.callI (C : Cx p s m meth c Z own nm bytes maxL ret) (X : Stand p l e R s m args below meth c T locs cells slots) {idx : Nat} {y : MethodName} {a : Addr} {bytes' : ByteArray} {maxL' : Nat} {ret' : Option FieldType} {rm : Room} {as' : Array Value} {Q' : Option Value → Heap → List Loc → Prop} {argsL rest : List Value} {ps : List FieldType} {r : Option FieldType} {W : Nat} (hini : y.name = "<init>") (w1 : (Cond.methodLink own idx y).before a0 Z = true) (w2 : (Cond.instanceMethod y).before a0 Z = true) (hy : y.cls ≠ "java/lang/invoke/MethodHandle" ∧ y.cls ≠ "java/lang/invoke/VarHandle") (M : Met1 l Z y bytes' maxL' ret' rm as' h Q') (wc : (Cond.code y bytes' maxL' ret').before a0 Z = true) (wz : (Cond.initialized y.cls).before a0 Z = true) (eT : T.heap = h) (hS : S = argsL.reverse ++ .ref a :: rest) (has : (.ref a :: argsL).toArray = as') (pd : parseMethodDescriptor y.desc = some ⟨ps, r⟩) (hlen : argsL.length = ps.length) (hW : (rest.map fun v => v.category).sum ≤ W) (hls : Ls.size = maxL) (hf : rm.frames + 1 ≤ R.frames) (hlo : W + (maxL' + 11) + rm.locals ≤ R.locals) (hc : cells + rm.cells ≤ R.cells) (hs : slots + rm.slots ≤ R.slots) (hr0 : ret' = none) (hd : decode bytes pc = .ok (.invokespecial idx, 3)) (hp : pc + 3 = pc')
    (K : ∀ T' v L, Stand p l e R s m args below meth c T' (locs ++ L) (cells + rm.cells) (slots + rm.slots) → Q' v T'.heap L → Go p e below Fin' T' (mkF m pc' Ls (v.toList ++ rest))) : Go p e below Fin' T (mkF m pc Ls S) := by
  subst hp
  subst hr0
  subst hS has
  obtain ⟨v, _, ⟨T', L', k', n'⟩, -, X', ⟨L, hQ, l', y', z'⟩, st⟩ := X.specialBack C.1 (y := y) hini C.2.2.1 (mvT C.2.1 w1) (mvT C.2.1 w2) (mvT C.2.1 wc) hy (backOf (W := W) (M []) C.2.1 wc wz hf hlo) (g := mkF m pc Ls (argsL.reverse ++ .ref a :: rest)) rfl (by show Ls.size = _; rw [C.2.2.2.2.1]; exact hls) (Steps.refl _) (a := a) (argsL := argsL) (rest := rest) (lenOf pd hlen) rfl (by show 2 * 0 + _ ≤ _; omega) (hb C.2.2.2.1 hd) (fun _ _ => ⟨rfl, eT, hc, hs⟩)
  dsimp only [Pt.U, Pt.locs, Pt.cells, Pt.slots] at X' l' y' z' st hQ
  subst l' y' z'
  exact (K T' v L X' hQ).via fun t k => st.trans k
theorem Go.callP (C : Cx p s m meth c Z own nm bytes maxL ret) (X : Stand p l e R s m args below meth c T locs cells slots) {idx : Nat} {y : MethodName} {a : Addr} {K1 : String} {bytes' : ByteArray} {maxL' : Nat} {ret' : Option FieldType} {rm : Room} {as' : Array Value} {Q' : Option Value → Heap → List Loc → Prop} {argsL rest : List Value} {ps : List FieldType} {r : Option FieldType} {W : Nat} (w1 : (Cond.methodLink own idx y).before a0 Z = true) (w2 : (Cond.instanceMethod y).before a0 Z = true) (w3 : (Cond.selects y.cls y y).before a0 Z = true) (w4 : (Cond.privateMethod y).before a0 Z = true) (E : Exa Z h a K1) (hy : y.cls ≠ "java/lang/invoke/MethodHandle" ∧ y.cls ≠ "java/lang/invoke/VarHandle") (M : Met1 l Z y bytes' maxL' ret' rm as' h Q') (wc : (Cond.code y bytes' maxL' ret').before a0 Z = true) (wz : (Cond.initialized y.cls).before a0 Z = true) (eT : T.heap = h) (hS : S = argsL.reverse ++ .ref a :: rest) (has : (.ref a :: argsL).toArray = as') (pd : parseMethodDescriptor y.desc = some ⟨ps, r⟩) (hlen : argsL.length = ps.length) (hW : (rest.map fun v => v.category).sum ≤ W) (hls : Ls.size = maxL) (hf : rm.frames + 1 ≤ R.frames) (hlo : W + (maxL' + 11) + rm.locals ≤ R.locals) (hc : cells + rm.cells ≤ R.cells) (hs : slots + rm.slots ≤ R.slots) (hd : decode bytes pc = .ok (.invokevirtual idx, 3)) (hp : pc + 3 = pc')
    (K : ∀ T' v L, Stand p l e R s m args below meth c T' (locs ++ L) (cells + rm.cells) (slots + rm.slots) → Q' v T'.heap L → Go p e below Fin' T' (mkF m pc' Ls (v.toList ++ rest))) : Go p e below Fin' T (mkF m pc Ls S) := by
  subst hp
  obtain ⟨cq, q1, q2⟩ := E.cell
  subst hS has
  obtain ⟨v, _, ⟨T', L', k', n'⟩, -, X', ⟨L, hQ, l', y', z'⟩, st⟩ := X.privateBack C.1 (y := y) C.2.2.1 (mvT C.2.1 w1) (mvT C.2.1 w2) (mvT C.2.1 w3) (Cond.privateMethod_at (mvP C.2.1 w4 (args := #[]))) (mvT C.2.1 wc) hy (backOf (W := W) (M []) C.2.1 wc wz hf hlo) (g := mkF m pc Ls (argsL.reverse ++ .ref a :: rest)) rfl (by show Ls.size = _; rw [C.2.2.2.2.1]; exact hls) (Steps.refl _) (a := a) (by rw [eT]; exact q1) q2 (argsL := argsL) (rest := rest) (lenOf pd hlen) rfl (by show 2 * 0 + _ ≤ _; omega) (hb C.2.2.2.1 hd) (fun _ _ => ⟨rfl, eT, hc, hs⟩)
  dsimp only [Pt.U, Pt.locs, Pt.cells, Pt.slots] at X' l' y' z' st hQ
  subst l' y' z'
  exact (K T' v L X' hQ).via fun t k => st.trans k
theorem Go.callV (C : Cx p s m meth c Z own nm bytes maxL ret) (X : Stand p l e R s m args below meth c T locs cells slots) {idx : Nat} {y z : MethodName} {a : Addr} {K1 : String} {bytes' : ByteArray} {maxL' : Nat} {ret' : Option FieldType} {rm : Room} {as' : Array Value} {Q' : Option Value → Heap → List Loc → Prop} {argsL rest : List Value} {ps : List FieldType} {r : Option FieldType} {W : Nat} (w1 : (Cond.methodLink own idx y).before a0 Z = true) (w2 : (Cond.declares y).before a0 Z = true) (hnf : NotFace s y) (w3 : (Cond.selects K1 y z).before a0 Z = true) (w4 : (Cond.instanceMethod z).before a0 Z = true) (E : Exa Z h a K1) (hy : y.cls ≠ "java/lang/invoke/MethodHandle" ∧ y.cls ≠ "java/lang/invoke/VarHandle") (M : Met1 l Z z bytes' maxL' ret' rm as' h Q') (wc : (Cond.code z bytes' maxL' ret').before a0 Z = true) (wz : (Cond.initialized z.cls).before a0 Z = true) (eT : T.heap = h) (hS : S = argsL.reverse ++ .ref a :: rest) (has : (.ref a :: argsL).toArray = as') (pd : parseMethodDescriptor y.desc = some ⟨ps, r⟩) (hlen : argsL.length = ps.length) (hW : (rest.map fun v => v.category).sum ≤ W) (hls : Ls.size = maxL) (hf : rm.frames + 1 ≤ R.frames) (hlo : W + (maxL' + 11) + rm.locals ≤ R.locals) (hc : cells + rm.cells ≤ R.cells) (hs : slots + rm.slots ≤ R.slots) (hd : decode bytes pc = .ok (.invokevirtual idx, 3)) (hp : pc + 3 = pc')
    (K : ∀ T' v L, Stand p l e R s m args below meth c T' (locs ++ L) (cells + rm.cells) (slots + rm.slots) → Q' v T'.heap L → Go p e below Fin' T' (mkF m pc' Ls (v.toList ++ rest))) : Go p e below Fin' T (mkF m pc Ls S) := by
  subst hp
  obtain ⟨cq, kq, qa, qb, qc⟩ := isOf C.2.1 eT E
  subst hS has
  obtain ⟨v, _, ⟨T', L', k', n'⟩, -, X', ⟨L, hQ, l', y', z'⟩, st⟩ := X.virtualBack C.1 (y := y) (z := z) C.2.2.1 (mvT C.2.1 w1) (mvT C.2.1 w2) hnf (mvT C.2.1 w3) (mvT C.2.1 w4) hy (backOf (W := W) (M []) C.2.1 wc wz hf hlo) qa qc (g := mkF m pc Ls (argsL.reverse ++ .ref a :: rest)) rfl (by show Ls.size = _; rw [C.2.2.2.2.1]; exact hls) (Steps.refl _) (argsL := argsL) (rest := rest) (lenOf pd hlen) rfl (by show 2 * 0 + _ ≤ _; omega) (hb C.2.2.2.1 hd) (fun _ _ => ⟨rfl, eT, hc, hs⟩)
  dsimp only [Pt.U, Pt.locs, Pt.cells, Pt.slots] at X' l' y' z' st hQ
  subst l' y' z'
  exact (K T' v L X' hQ).via fun t k => st.trans k
theorem Go.callF (C : Cx p s m meth c Z own nm bytes maxL ret) (X : Stand p l e R s m args below meth c T locs cells slots) {idx count : Nat} {y z : MethodName} {a : Addr} {K1 : String} {bytes' : ByteArray} {maxL' : Nat} {ret' : Option FieldType} {rm : Room} {as' : Array Value} {Q' : Option Value → Heap → List Loc → Prop} {argsL rest : List Value} {ps : List FieldType} {r : Option FieldType} {W : Nat} (w1 : (Cond.methodLink own idx y).before a0 Z = true) (w2 : (Cond.declares y).before a0 Z = true) (w3 : (Cond.interfaceMethod y.cls y.cls y.name y.desc).before a0 Z = true) (w4 : (Cond.selects K1 y z).before a0 Z = true) (w5 : (Cond.instanceMethod z).before a0 Z = true) (w6 : (Cond.publicMethod z).before a0 Z = true) (w7 : (Cond.unhidden K1 y.name y.desc).before a0 Z = true) (w8 : (Cond.castable K1 y.cls).before a0 Z = true) (hfa : ((Cond.interfaceMethod y.cls y.cls y.name y.desc).onTables && (Cond.interfaceMethod y.cls y.cls y.name y.desc).keepsFace) = true) (E : Exa Z h a K1) (hy : y.cls ≠ "java/lang/invoke/MethodHandle" ∧ y.cls ≠ "java/lang/invoke/VarHandle") (M : Met1 l Z z bytes' maxL' ret' rm as' h Q') (wc : (Cond.code z bytes' maxL' ret').before a0 Z = true) (wz : (Cond.initialized z.cls).before a0 Z = true) (eT : T.heap = h) (hS : S = argsL.reverse ++ .ref a :: rest) (has : (.ref a :: argsL).toArray = as') (pd : parseMethodDescriptor y.desc = some ⟨ps, r⟩) (hlen : argsL.length = ps.length) (hW : (rest.map fun v => v.category).sum ≤ W) (hls : Ls.size = maxL) (hf : rm.frames + 1 ≤ R.frames) (hlo : W + (maxL' + 11) + rm.locals ≤ R.locals) (hc : cells + rm.cells ≤ R.cells) (hs : slots + rm.slots ≤ R.slots) (hd : decode bytes pc = .ok (.invokeinterface idx count, 5)) (hp : pc + 5 = pc')
    (K : ∀ T' v L, Stand p l e R s m args below meth c T' (locs ++ L) (cells + rm.cells) (slots + rm.slots) → Q' v T'.heap L → Go p e below Fin' T' (mkF m pc' Ls (v.toList ++ rest))) : Go p e below Fin' T (mkF m pc Ls S) := by
  subst hp
  obtain ⟨cq, kq, qa, qb, qc⟩ := isOf C.2.1 eT E
  subst hS has
  obtain ⟨v, _, ⟨T', L', k', n'⟩, -, X', ⟨L, hQ, l', y', z'⟩, st⟩ := X.interfaceBack C.1 (xi := y) (y := z) C.2.2.1 (mvT C.2.1 w1) (mvT C.2.1 w2) (mvT C.2.1 w3 hfa) (mvT C.2.1 w4) (mvT C.2.1 w5) (mvT C.2.1 w6) (mvT C.2.1 w7) (mvT C.2.1 w8) hy (backOf (W := W) (M []) C.2.1 wc wz hf hlo) qa qb qc (g := mkF m pc Ls (argsL.reverse ++ .ref a :: rest)) rfl (by show Ls.size = _; rw [C.2.2.2.2.1]; exact hls) (Steps.refl _) (argsL := argsL) (rest := rest) (lenOf pd hlen) rfl (by show 2 * 0 + _ ≤ _; omega) (hb C.2.2.2.1 hd) (fun _ _ => ⟨rfl, eT, hc, hs⟩)
  dsimp only [Pt.U, Pt.locs, Pt.cells, Pt.slots] at X' l' y' z' st hQ
  subst l' y' z'
  exact (K T' v L X' hQ).via fun t k => st.trans k
theorem notFace_at {y : MethodName} {K1 : String} (hZ : Z.Warmed39 s.vm) (w : (Cond.selects K1 y y).before a0 Z = true) : NotFace s y := notFace_of_selects (args := #[]) (mvT hZ w)
end Own
end Jvm.RoadKit

namespace Jvm.Pilot.@@N@@
open Jvm Jvm.ClassFile Sem Op Lib Jvm.Free Jvm.Stand Jvm.LawKit Jvm.RoadKit Bundle Jvm.Pilot.@@N@@.Jvm.D
theorem own_c37 (K : Int32) (h0 : 0 ≤ K.toInt) (h1 : K.toInt < 37) : K = (0 : Int32) ∨ K = (1 : Int32) ∨ K = (2 : Int32) ∨ K = (3 : Int32) ∨ K = (4 : Int32) ∨ K = (5 : Int32) ∨ K = (6 : Int32) ∨ K = (7 : Int32) ∨ K = (8 : Int32) ∨ K = (9 : Int32) ∨ K = (10 : Int32) ∨ K = (11 : Int32) ∨ K = (12 : Int32) ∨ K = (13 : Int32) ∨ K = (14 : Int32) ∨ K = (15 : Int32) ∨ K = (16 : Int32) ∨ K = (17 : Int32) ∨ K = (18 : Int32) ∨ K = (19 : Int32) ∨ K = (20 : Int32) ∨ K = (21 : Int32) ∨ K = (22 : Int32) ∨ K = (23 : Int32) ∨ K = (24 : Int32) ∨ K = (25 : Int32) ∨ K = (26 : Int32) ∨ K = (27 : Int32) ∨ K = (28 : Int32) ∨ K = (29 : Int32) ∨ K = (30 : Int32) ∨ K = (31 : Int32) ∨ K = (32 : Int32) ∨ K = (33 : Int32) ∨ K = (34 : Int32) ∨ K = (35 : Int32) ∨ K = (36 : Int32) := by
  simp only [← Int32.toInt_inj, Int32.reduceToInt]; omega
theorem own_b37 (x : Int32) : 0 ≤ ((x &&& (2147483647 : Int32)) % (37 : Int32)).toInt ∧ ((x &&& (2147483647 : Int32)) % (37 : Int32)).toInt < 37 := by
  have h1 := c_mask x (2147483647 : Int32) 31 (by decide) (by decide)
  have h2 := (c_irem (x &&& (2147483647 : Int32)) (37 : Int32) 37 (by decide)).1
  have h3 : 0 ≤ (x &&& (2147483647 : Int32)).toInt := by rw [h1]; omega
  rw [h2 h3]; omega
theorem own_eqI {args : Array Value} {Z : State} {t : Term} {n : Int32} (h : (Jvm.Cond.eq t (.int n)).value args Z none Z [] = some true) : t.eval args Z none [] Z = some (.int n) := by
  simp only [Cond.value, Term.eval] at h
  cases ht : t.eval args Z none [] Z with
  | none => simp [ht] at h
  | some x => cases x <;> simp [ht] at h ⊢; exact h
theorem own_ne {Z : State} {a b : Addr} {i j : Int32} (hi : Z.fieldOf? a "java/lang/Enum" "ordinal" "I" = some (.int i)) (hj : Z.fieldOf? b "java/lang/Enum" "ordinal" "I" = some (.int j)) (hn : i ≠ j) : a ≠ b := fun e => by
  rw [e, hj] at hi; exact hn (Value.int.inj (Option.some.inj hi)).symm
theorem pf_1 : plainFor (⟨"se/bryggan/saml/EidAttributeIsScopedPinLaw", "pick", "(I)Lse/bryggan/saml/EidAttribute;"⟩ : MethodName) = true := plainFor_of_name (by first | (simp [plainName, overriddenIn]; done) | decide +kernel)
theorem d1_0 : decode method_3_code 0 = .ok (.iload_n 0, 1) := by decide +kernel
theorem d1_1 : decode method_3_code 1 = .ok (.tableswitch 303 0 35 #[159, 163, 167, 171, 175, 179, 183, 187, 191, 195, 199, 203, 207, 211, 215, 219, 223, 227, 231, 235, 239, 243, 247, 251, 255, 259, 263, 267, 271, 275, 279, 283, 287, 291, 295, 299], 159) := by decide +kernel
theorem d1_160 : decode method_3_code 160 = .ok (.getstatic 20, 3) := by decide +kernel
theorem d1_163 : decode method_3_code 163 = .ok (.areturn, 1) := by decide +kernel
def Q_p0 (Z : State) (w0 : Addr) (h0 : Heap) (v : Option Value) (h : Heap) (L : List Loc) : Prop := v = some (.ref w0) ∧ L = [] ∧ h = h0
set_option maxRecDepth 65536 in
set_option maxHeartbeats 40000000 in
theorem rm_p0 (l : Launch) (Z : State) (a0 : Array Value) (hw : ∀ d ∈ tables_1, d.before a0 Z = true) (w0 : Addr) (h0 : Heap) (O0 : Ext Z.heap h0) (S0 : Sta Z Z.heap "se/bryggan/saml/EidAttribute" "SN" "Lse/bryggan/saml/EidAttribute;" (.ref w0)) :
    Met1 l Z (⟨"se/bryggan/saml/EidAttributeIsScopedPinLaw", "pick", "(I)Lse/bryggan/saml/EidAttribute;"⟩ : MethodName) method_3_code 1 (some (.object "se/bryggan/saml/EidAttribute")) ({ frames := 0, cells := 0, slots := 0, locals := 0 } : Room) #[(.int (0 : Int32))] h0 (Q_p0 Z w0 h0) := by
  refine Met1.of_body (Ls := #[.val (.int (0 : Int32))]) pf_1 (fun m => by first | (simp [entryFrame, mkF, argsToLocals, Value.category]; done) | rfl) ?_
  intro p e s m below meth c T0 C X0 e0
  have N0 : Fr Z.heap.size [] := Fr.nil _
  refine Go.iloadN (pc' := 1) C X0 d1_0 rfl rfl ?_
  refine Go.tswIn (pc' := 160) (o := 159) C X0 d1_1 (by decide) (by decide) (by decide) (by decide) ?_
  refine Go.getS (pc' := 163) (host := "") C X0 (Or.inl (hw _ (List.mem_of_getElem? (i := 5) rfl))) Via.refl e0 (S0.ext O0) d1_160 rfl ?_
  intro T1 X1 e1
  exact Go.retA C X1 rfl d1_163 rfl rfl rfl (by rw [e1]; exact ⟨rfl, rfl, rfl⟩) (by decide) (by decide)
theorem d1_164 : decode method_3_code 164 = .ok (.getstatic 24, 3) := by decide +kernel
theorem d1_167 : decode method_3_code 167 = .ok (.areturn, 1) := by decide +kernel
def Q_p1 (Z : State) (w1 : Addr) (h0 : Heap) (v : Option Value) (h : Heap) (L : List Loc) : Prop := v = some (.ref w1) ∧ L = [] ∧ h = h0
set_option maxRecDepth 65536 in
set_option maxHeartbeats 40000000 in
theorem rm_p1 (l : Launch) (Z : State) (a0 : Array Value) (hw : ∀ d ∈ tables_1, d.before a0 Z = true) (w1 : Addr) (h0 : Heap) (O0 : Ext Z.heap h0) (S1 : Sta Z Z.heap "se/bryggan/saml/EidAttribute" "GIVEN_NAME" "Lse/bryggan/saml/EidAttribute;" (.ref w1)) :
    Met1 l Z (⟨"se/bryggan/saml/EidAttributeIsScopedPinLaw", "pick", "(I)Lse/bryggan/saml/EidAttribute;"⟩ : MethodName) method_3_code 1 (some (.object "se/bryggan/saml/EidAttribute")) ({ frames := 0, cells := 0, slots := 0, locals := 0 } : Room) #[(.int (1 : Int32))] h0 (Q_p1 Z w1 h0) := by
  refine Met1.of_body (Ls := #[.val (.int (1 : Int32))]) pf_1 (fun m => by first | (simp [entryFrame, mkF, argsToLocals, Value.category]; done) | rfl) ?_
  intro p e s m below meth c T0 C X0 e0
  have N0 : Fr Z.heap.size [] := Fr.nil _
  refine Go.iloadN (pc' := 1) C X0 d1_0 rfl rfl ?_
  refine Go.tswIn (pc' := 164) (o := 163) C X0 d1_1 (by decide) (by decide) (by decide) (by decide) ?_
  refine Go.getS (pc' := 167) (host := "") C X0 (Or.inl (hw _ (List.mem_of_getElem? (i := 31) rfl))) Via.refl e0 (S1.ext O0) d1_164 rfl ?_
  intro T1 X1 e1
  exact Go.retA C X1 rfl d1_167 rfl rfl rfl (by rw [e1]; exact ⟨rfl, rfl, rfl⟩) (by decide) (by decide)
theorem d1_168 : decode method_3_code 168 = .ok (.getstatic 27, 3) := by decide +kernel
theorem d1_171 : decode method_3_code 171 = .ok (.areturn, 1) := by decide +kernel
def Q_p2 (Z : State) (w2 : Addr) (h0 : Heap) (v : Option Value) (h : Heap) (L : List Loc) : Prop := v = some (.ref w2) ∧ L = [] ∧ h = h0
set_option maxRecDepth 65536 in
set_option maxHeartbeats 40000000 in
theorem rm_p2 (l : Launch) (Z : State) (a0 : Array Value) (hw : ∀ d ∈ tables_1, d.before a0 Z = true) (w2 : Addr) (h0 : Heap) (O0 : Ext Z.heap h0) (S2 : Sta Z Z.heap "se/bryggan/saml/EidAttribute" "DISPLAY_NAME" "Lse/bryggan/saml/EidAttribute;" (.ref w2)) :
    Met1 l Z (⟨"se/bryggan/saml/EidAttributeIsScopedPinLaw", "pick", "(I)Lse/bryggan/saml/EidAttribute;"⟩ : MethodName) method_3_code 1 (some (.object "se/bryggan/saml/EidAttribute")) ({ frames := 0, cells := 0, slots := 0, locals := 0 } : Room) #[(.int (2 : Int32))] h0 (Q_p2 Z w2 h0) := by
  refine Met1.of_body (Ls := #[.val (.int (2 : Int32))]) pf_1 (fun m => by first | (simp [entryFrame, mkF, argsToLocals, Value.category]; done) | rfl) ?_
  intro p e s m below meth c T0 C X0 e0
  have N0 : Fr Z.heap.size [] := Fr.nil _
  refine Go.iloadN (pc' := 1) C X0 d1_0 rfl rfl ?_
  refine Go.tswIn (pc' := 168) (o := 167) C X0 d1_1 (by decide) (by decide) (by decide) (by decide) ?_
  refine Go.getS (pc' := 171) (host := "") C X0 (Or.inl (hw _ (List.mem_of_getElem? (i := 25) rfl))) Via.refl e0 (S2.ext O0) d1_168 rfl ?_
  intro T1 X1 e1
  exact Go.retA C X1 rfl d1_171 rfl rfl rfl (by rw [e1]; exact ⟨rfl, rfl, rfl⟩) (by decide) (by decide)
theorem d1_172 : decode method_3_code 172 = .ok (.getstatic 30, 3) := by decide +kernel
theorem d1_175 : decode method_3_code 175 = .ok (.areturn, 1) := by decide +kernel
def Q_p3 (Z : State) (w3 : Addr) (h0 : Heap) (v : Option Value) (h : Heap) (L : List Loc) : Prop := v = some (.ref w3) ∧ L = [] ∧ h = h0
set_option maxRecDepth 65536 in
set_option maxHeartbeats 40000000 in
theorem rm_p3 (l : Launch) (Z : State) (a0 : Array Value) (hw : ∀ d ∈ tables_1, d.before a0 Z = true) (w3 : Addr) (h0 : Heap) (O0 : Ext Z.heap h0) (S3 : Sta Z Z.heap "se/bryggan/saml/EidAttribute" "GENDER" "Lse/bryggan/saml/EidAttribute;" (.ref w3)) :
    Met1 l Z (⟨"se/bryggan/saml/EidAttributeIsScopedPinLaw", "pick", "(I)Lse/bryggan/saml/EidAttribute;"⟩ : MethodName) method_3_code 1 (some (.object "se/bryggan/saml/EidAttribute")) ({ frames := 0, cells := 0, slots := 0, locals := 0 } : Room) #[(.int (3 : Int32))] h0 (Q_p3 Z w3 h0) := by
  refine Met1.of_body (Ls := #[.val (.int (3 : Int32))]) pf_1 (fun m => by first | (simp [entryFrame, mkF, argsToLocals, Value.category]; done) | rfl) ?_
  intro p e s m below meth c T0 C X0 e0
  have N0 : Fr Z.heap.size [] := Fr.nil _
  refine Go.iloadN (pc' := 1) C X0 d1_0 rfl rfl ?_
  refine Go.tswIn (pc' := 172) (o := 171) C X0 d1_1 (by decide) (by decide) (by decide) (by decide) ?_
  refine Go.getS (pc' := 175) (host := "") C X0 (Or.inl (hw _ (List.mem_of_getElem? (i := 15) rfl))) Via.refl e0 (S3.ext O0) d1_172 rfl ?_
  intro T1 X1 e1
  exact Go.retA C X1 rfl d1_175 rfl rfl rfl (by rw [e1]; exact ⟨rfl, rfl, rfl⟩) (by decide) (by decide)
theorem d1_176 : decode method_3_code 176 = .ok (.getstatic 33, 3) := by decide +kernel
theorem d1_179 : decode method_3_code 179 = .ok (.areturn, 1) := by decide +kernel
def Q_p4 (Z : State) (w4 : Addr) (h0 : Heap) (v : Option Value) (h : Heap) (L : List Loc) : Prop := v = some (.ref w4) ∧ L = [] ∧ h = h0
set_option maxRecDepth 65536 in
set_option maxHeartbeats 40000000 in
theorem rm_p4 (l : Launch) (Z : State) (a0 : Array Value) (hw : ∀ d ∈ tables_1, d.before a0 Z = true) (w4 : Addr) (h0 : Heap) (O0 : Ext Z.heap h0) (S4 : Sta Z Z.heap "se/bryggan/saml/EidAttribute" "PERSONAL_IDENTITY_NUMBER" "Lse/bryggan/saml/EidAttribute;" (.ref w4)) :
    Met1 l Z (⟨"se/bryggan/saml/EidAttributeIsScopedPinLaw", "pick", "(I)Lse/bryggan/saml/EidAttribute;"⟩ : MethodName) method_3_code 1 (some (.object "se/bryggan/saml/EidAttribute")) ({ frames := 0, cells := 0, slots := 0, locals := 0 } : Room) #[(.int (4 : Int32))] h0 (Q_p4 Z w4 h0) := by
  refine Met1.of_body (Ls := #[.val (.int (4 : Int32))]) pf_1 (fun m => by first | (simp [entryFrame, mkF, argsToLocals, Value.category]; done) | rfl) ?_
  intro p e s m below meth c T0 C X0 e0
  have N0 : Fr Z.heap.size [] := Fr.nil _
  refine Go.iloadN (pc' := 1) C X0 d1_0 rfl rfl ?_
  refine Go.tswIn (pc' := 176) (o := 175) C X0 d1_1 (by decide) (by decide) (by decide) (by decide) ?_
  refine Go.getS (pc' := 179) (host := "") C X0 (Or.inl (hw _ (List.mem_of_getElem? (i := 33) rfl))) Via.refl e0 (S4.ext O0) d1_176 rfl ?_
  intro T1 X1 e1
  exact Go.retA C X1 rfl d1_179 rfl rfl rfl (by rw [e1]; exact ⟨rfl, rfl, rfl⟩) (by decide) (by decide)
theorem d1_180 : decode method_3_code 180 = .ok (.getstatic 36, 3) := by decide +kernel
theorem d1_183 : decode method_3_code 183 = .ok (.areturn, 1) := by decide +kernel
def Q_p5 (Z : State) (w5 : Addr) (h0 : Heap) (v : Option Value) (h : Heap) (L : List Loc) : Prop := v = some (.ref w5) ∧ L = [] ∧ h = h0
set_option maxRecDepth 65536 in
set_option maxHeartbeats 40000000 in
theorem rm_p5 (l : Launch) (Z : State) (a0 : Array Value) (hw : ∀ d ∈ tables_1, d.before a0 Z = true) (w5 : Addr) (h0 : Heap) (O0 : Ext Z.heap h0) (S5 : Sta Z Z.heap "se/bryggan/saml/EidAttribute" "PREVIOUS_PERSONAL_IDENTITY_NUMBER" "Lse/bryggan/saml/EidAttribute;" (.ref w5)) :
    Met1 l Z (⟨"se/bryggan/saml/EidAttributeIsScopedPinLaw", "pick", "(I)Lse/bryggan/saml/EidAttribute;"⟩ : MethodName) method_3_code 1 (some (.object "se/bryggan/saml/EidAttribute")) ({ frames := 0, cells := 0, slots := 0, locals := 0 } : Room) #[(.int (5 : Int32))] h0 (Q_p5 Z w5 h0) := by
  refine Met1.of_body (Ls := #[.val (.int (5 : Int32))]) pf_1 (fun m => by first | (simp [entryFrame, mkF, argsToLocals, Value.category]; done) | rfl) ?_
  intro p e s m below meth c T0 C X0 e0
  have N0 : Fr Z.heap.size [] := Fr.nil _
  refine Go.iloadN (pc' := 1) C X0 d1_0 rfl rfl ?_
  refine Go.tswIn (pc' := 180) (o := 179) C X0 d1_1 (by decide) (by decide) (by decide) (by decide) ?_
  refine Go.getS (pc' := 183) (host := "") C X0 (Or.inl (hw _ (List.mem_of_getElem? (i := 21) rfl))) Via.refl e0 (S5.ext O0) d1_180 rfl ?_
  intro T1 X1 e1
  exact Go.retA C X1 rfl d1_183 rfl rfl rfl (by rw [e1]; exact ⟨rfl, rfl, rfl⟩) (by decide) (by decide)
theorem d1_184 : decode method_3_code 184 = .ok (.getstatic 39, 3) := by decide +kernel
theorem d1_187 : decode method_3_code 187 = .ok (.areturn, 1) := by decide +kernel
def Q_p6 (Z : State) (w6 : Addr) (h0 : Heap) (v : Option Value) (h : Heap) (L : List Loc) : Prop := v = some (.ref w6) ∧ L = [] ∧ h = h0
set_option maxRecDepth 65536 in
set_option maxHeartbeats 40000000 in
theorem rm_p6 (l : Launch) (Z : State) (a0 : Array Value) (hw : ∀ d ∈ tables_1, d.before a0 Z = true) (w6 : Addr) (h0 : Heap) (O0 : Ext Z.heap h0) (S6 : Sta Z Z.heap "se/bryggan/saml/EidAttribute" "DATE_OF_BIRTH" "Lse/bryggan/saml/EidAttribute;" (.ref w6)) :
    Met1 l Z (⟨"se/bryggan/saml/EidAttributeIsScopedPinLaw", "pick", "(I)Lse/bryggan/saml/EidAttribute;"⟩ : MethodName) method_3_code 1 (some (.object "se/bryggan/saml/EidAttribute")) ({ frames := 0, cells := 0, slots := 0, locals := 0 } : Room) #[(.int (6 : Int32))] h0 (Q_p6 Z w6 h0) := by
  refine Met1.of_body (Ls := #[.val (.int (6 : Int32))]) pf_1 (fun m => by first | (simp [entryFrame, mkF, argsToLocals, Value.category]; done) | rfl) ?_
  intro p e s m below meth c T0 C X0 e0
  have N0 : Fr Z.heap.size [] := Fr.nil _
  refine Go.iloadN (pc' := 1) C X0 d1_0 rfl rfl ?_
  refine Go.tswIn (pc' := 184) (o := 183) C X0 d1_1 (by decide) (by decide) (by decide) (by decide) ?_
  refine Go.getS (pc' := 187) (host := "") C X0 (Or.inl (hw _ (List.mem_of_getElem? (i := 65) rfl))) Via.refl e0 (S6.ext O0) d1_184 rfl ?_
  intro T1 X1 e1
  exact Go.retA C X1 rfl d1_187 rfl rfl rfl (by rw [e1]; exact ⟨rfl, rfl, rfl⟩) (by decide) (by decide)
theorem d1_188 : decode method_3_code 188 = .ok (.getstatic 42, 3) := by decide +kernel
theorem d1_191 : decode method_3_code 191 = .ok (.areturn, 1) := by decide +kernel
def Q_p7 (Z : State) (w7 : Addr) (h0 : Heap) (v : Option Value) (h : Heap) (L : List Loc) : Prop := v = some (.ref w7) ∧ L = [] ∧ h = h0
set_option maxRecDepth 65536 in
set_option maxHeartbeats 40000000 in
theorem rm_p7 (l : Launch) (Z : State) (a0 : Array Value) (hw : ∀ d ∈ tables_1, d.before a0 Z = true) (w7 : Addr) (h0 : Heap) (O0 : Ext Z.heap h0) (S7 : Sta Z Z.heap "se/bryggan/saml/EidAttribute" "BIRTH_NAME" "Lse/bryggan/saml/EidAttribute;" (.ref w7)) :
    Met1 l Z (⟨"se/bryggan/saml/EidAttributeIsScopedPinLaw", "pick", "(I)Lse/bryggan/saml/EidAttribute;"⟩ : MethodName) method_3_code 1 (some (.object "se/bryggan/saml/EidAttribute")) ({ frames := 0, cells := 0, slots := 0, locals := 0 } : Room) #[(.int (7 : Int32))] h0 (Q_p7 Z w7 h0) := by
  refine Met1.of_body (Ls := #[.val (.int (7 : Int32))]) pf_1 (fun m => by first | (simp [entryFrame, mkF, argsToLocals, Value.category]; done) | rfl) ?_
  intro p e s m below meth c T0 C X0 e0
  have N0 : Fr Z.heap.size [] := Fr.nil _
  refine Go.iloadN (pc' := 1) C X0 d1_0 rfl rfl ?_
  refine Go.tswIn (pc' := 188) (o := 187) C X0 d1_1 (by decide) (by decide) (by decide) (by decide) ?_
  refine Go.getS (pc' := 191) (host := "") C X0 (Or.inl (hw _ (List.mem_of_getElem? (i := 23) rfl))) Via.refl e0 (S7.ext O0) d1_188 rfl ?_
  intro T1 X1 e1
  exact Go.retA C X1 rfl d1_191 rfl rfl rfl (by rw [e1]; exact ⟨rfl, rfl, rfl⟩) (by decide) (by decide)
theorem d1_192 : decode method_3_code 192 = .ok (.getstatic 45, 3) := by decide +kernel
theorem d1_195 : decode method_3_code 195 = .ok (.areturn, 1) := by decide +kernel
def Q_p8 (Z : State) (w8 : Addr) (h0 : Heap) (v : Option Value) (h : Heap) (L : List Loc) : Prop := v = some (.ref w8) ∧ L = [] ∧ h = h0
set_option maxRecDepth 65536 in
set_option maxHeartbeats 40000000 in
theorem rm_p8 (l : Launch) (Z : State) (a0 : Array Value) (hw : ∀ d ∈ tables_1, d.before a0 Z = true) (w8 : Addr) (h0 : Heap) (O0 : Ext Z.heap h0) (S8 : Sta Z Z.heap "se/bryggan/saml/EidAttribute" "STREET" "Lse/bryggan/saml/EidAttribute;" (.ref w8)) :
    Met1 l Z (⟨"se/bryggan/saml/EidAttributeIsScopedPinLaw", "pick", "(I)Lse/bryggan/saml/EidAttribute;"⟩ : MethodName) method_3_code 1 (some (.object "se/bryggan/saml/EidAttribute")) ({ frames := 0, cells := 0, slots := 0, locals := 0 } : Room) #[(.int (8 : Int32))] h0 (Q_p8 Z w8 h0) := by
  refine Met1.of_body (Ls := #[.val (.int (8 : Int32))]) pf_1 (fun m => by first | (simp [entryFrame, mkF, argsToLocals, Value.category]; done) | rfl) ?_
  intro p e s m below meth c T0 C X0 e0
  have N0 : Fr Z.heap.size [] := Fr.nil _
  refine Go.iloadN (pc' := 1) C X0 d1_0 rfl rfl ?_
  refine Go.tswIn (pc' := 192) (o := 191) C X0 d1_1 (by decide) (by decide) (by decide) (by decide) ?_
  refine Go.getS (pc' := 195) (host := "") C X0 (Or.inl (hw _ (List.mem_of_getElem? (i := 29) rfl))) Via.refl e0 (S8.ext O0) d1_192 rfl ?_
  intro T1 X1 e1
  exact Go.retA C X1 rfl d1_195 rfl rfl rfl (by rw [e1]; exact ⟨rfl, rfl, rfl⟩) (by decide) (by decide)
theorem d1_196 : decode method_3_code 196 = .ok (.getstatic 48, 3) := by decide +kernel
theorem d1_199 : decode method_3_code 199 = .ok (.areturn, 1) := by decide +kernel
def Q_p9 (Z : State) (w9 : Addr) (h0 : Heap) (v : Option Value) (h : Heap) (L : List Loc) : Prop := v = some (.ref w9) ∧ L = [] ∧ h = h0
set_option maxRecDepth 65536 in
set_option maxHeartbeats 40000000 in
theorem rm_p9 (l : Launch) (Z : State) (a0 : Array Value) (hw : ∀ d ∈ tables_1, d.before a0 Z = true) (w9 : Addr) (h0 : Heap) (O0 : Ext Z.heap h0) (S9 : Sta Z Z.heap "se/bryggan/saml/EidAttribute" "POST_OFFICE_BOX" "Lse/bryggan/saml/EidAttribute;" (.ref w9)) :
    Met1 l Z (⟨"se/bryggan/saml/EidAttributeIsScopedPinLaw", "pick", "(I)Lse/bryggan/saml/EidAttribute;"⟩ : MethodName) method_3_code 1 (some (.object "se/bryggan/saml/EidAttribute")) ({ frames := 0, cells := 0, slots := 0, locals := 0 } : Room) #[(.int (9 : Int32))] h0 (Q_p9 Z w9 h0) := by
  refine Met1.of_body (Ls := #[.val (.int (9 : Int32))]) pf_1 (fun m => by first | (simp [entryFrame, mkF, argsToLocals, Value.category]; done) | rfl) ?_
  intro p e s m below meth c T0 C X0 e0
  have N0 : Fr Z.heap.size [] := Fr.nil _
  refine Go.iloadN (pc' := 1) C X0 d1_0 rfl rfl ?_
  refine Go.tswIn (pc' := 196) (o := 195) C X0 d1_1 (by decide) (by decide) (by decide) (by decide) ?_
  refine Go.getS (pc' := 199) (host := "") C X0 (Or.inl (hw _ (List.mem_of_getElem? (i := 63) rfl))) Via.refl e0 (S9.ext O0) d1_196 rfl ?_
  intro T1 X1 e1
  exact Go.retA C X1 rfl d1_199 rfl rfl rfl (by rw [e1]; exact ⟨rfl, rfl, rfl⟩) (by decide) (by decide)
theorem d1_200 : decode method_3_code 200 = .ok (.getstatic 51, 3) := by decide +kernel
theorem d1_203 : decode method_3_code 203 = .ok (.areturn, 1) := by decide +kernel
def Q_p10 (Z : State) (w10 : Addr) (h0 : Heap) (v : Option Value) (h : Heap) (L : List Loc) : Prop := v = some (.ref w10) ∧ L = [] ∧ h = h0
set_option maxRecDepth 65536 in
set_option maxHeartbeats 40000000 in
theorem rm_p10 (l : Launch) (Z : State) (a0 : Array Value) (hw : ∀ d ∈ tables_1, d.before a0 Z = true) (w10 : Addr) (h0 : Heap) (O0 : Ext Z.heap h0) (S10 : Sta Z Z.heap "se/bryggan/saml/EidAttribute" "POSTAL_CODE" "Lse/bryggan/saml/EidAttribute;" (.ref w10)) :
    Met1 l Z (⟨"se/bryggan/saml/EidAttributeIsScopedPinLaw", "pick", "(I)Lse/bryggan/saml/EidAttribute;"⟩ : MethodName) method_3_code 1 (some (.object "se/bryggan/saml/EidAttribute")) ({ frames := 0, cells := 0, slots := 0, locals := 0 } : Room) #[(.int (10 : Int32))] h0 (Q_p10 Z w10 h0) := by
  refine Met1.of_body (Ls := #[.val (.int (10 : Int32))]) pf_1 (fun m => by first | (simp [entryFrame, mkF, argsToLocals, Value.category]; done) | rfl) ?_
  intro p e s m below meth c T0 C X0 e0
  have N0 : Fr Z.heap.size [] := Fr.nil _
  refine Go.iloadN (pc' := 1) C X0 d1_0 rfl rfl ?_
  refine Go.tswIn (pc' := 200) (o := 199) C X0 d1_1 (by decide) (by decide) (by decide) (by decide) ?_
  refine Go.getS (pc' := 203) (host := "") C X0 (Or.inl (hw _ (List.mem_of_getElem? (i := 37) rfl))) Via.refl e0 (S10.ext O0) d1_200 rfl ?_
  intro T1 X1 e1
  exact Go.retA C X1 rfl d1_203 rfl rfl rfl (by rw [e1]; exact ⟨rfl, rfl, rfl⟩) (by decide) (by decide)
theorem d1_204 : decode method_3_code 204 = .ok (.getstatic 54, 3) := by decide +kernel
theorem d1_207 : decode method_3_code 207 = .ok (.areturn, 1) := by decide +kernel
def Q_p11 (Z : State) (w11 : Addr) (h0 : Heap) (v : Option Value) (h : Heap) (L : List Loc) : Prop := v = some (.ref w11) ∧ L = [] ∧ h = h0
set_option maxRecDepth 65536 in
set_option maxHeartbeats 40000000 in
theorem rm_p11 (l : Launch) (Z : State) (a0 : Array Value) (hw : ∀ d ∈ tables_1, d.before a0 Z = true) (w11 : Addr) (h0 : Heap) (O0 : Ext Z.heap h0) (S11 : Sta Z Z.heap "se/bryggan/saml/EidAttribute" "L" "Lse/bryggan/saml/EidAttribute;" (.ref w11)) :
    Met1 l Z (⟨"se/bryggan/saml/EidAttributeIsScopedPinLaw", "pick", "(I)Lse/bryggan/saml/EidAttribute;"⟩ : MethodName) method_3_code 1 (some (.object "se/bryggan/saml/EidAttribute")) ({ frames := 0, cells := 0, slots := 0, locals := 0 } : Room) #[(.int (11 : Int32))] h0 (Q_p11 Z w11 h0) := by
  refine Met1.of_body (Ls := #[.val (.int (11 : Int32))]) pf_1 (fun m => by first | (simp [entryFrame, mkF, argsToLocals, Value.category]; done) | rfl) ?_
  intro p e s m below meth c T0 C X0 e0
  have N0 : Fr Z.heap.size [] := Fr.nil _
  refine Go.iloadN (pc' := 1) C X0 d1_0 rfl rfl ?_
  refine Go.tswIn (pc' := 204) (o := 203) C X0 d1_1 (by decide) (by decide) (by decide) (by decide) ?_
  refine Go.getS (pc' := 207) (host := "") C X0 (Or.inl (hw _ (List.mem_of_getElem? (i := 27) rfl))) Via.refl e0 (S11.ext O0) d1_204 rfl ?_
  intro T1 X1 e1
  exact Go.retA C X1 rfl d1_207 rfl rfl rfl (by rw [e1]; exact ⟨rfl, rfl, rfl⟩) (by decide) (by decide)
theorem d1_208 : decode method_3_code 208 = .ok (.getstatic 57, 3) := by decide +kernel
theorem d1_211 : decode method_3_code 211 = .ok (.areturn, 1) := by decide +kernel
def Q_p12 (Z : State) (w12 : Addr) (h0 : Heap) (v : Option Value) (h : Heap) (L : List Loc) : Prop := v = some (.ref w12) ∧ L = [] ∧ h = h0
set_option maxRecDepth 65536 in
set_option maxHeartbeats 40000000 in
theorem rm_p12 (l : Launch) (Z : State) (a0 : Array Value) (hw : ∀ d ∈ tables_1, d.before a0 Z = true) (w12 : Addr) (h0 : Heap) (O0 : Ext Z.heap h0) (S12 : Sta Z Z.heap "se/bryggan/saml/EidAttribute" "C" "Lse/bryggan/saml/EidAttribute;" (.ref w12)) :
    Met1 l Z (⟨"se/bryggan/saml/EidAttributeIsScopedPinLaw", "pick", "(I)Lse/bryggan/saml/EidAttribute;"⟩ : MethodName) method_3_code 1 (some (.object "se/bryggan/saml/EidAttribute")) ({ frames := 0, cells := 0, slots := 0, locals := 0 } : Room) #[(.int (12 : Int32))] h0 (Q_p12 Z w12 h0) := by
  refine Met1.of_body (Ls := #[.val (.int (12 : Int32))]) pf_1 (fun m => by first | (simp [entryFrame, mkF, argsToLocals, Value.category]; done) | rfl) ?_
  intro p e s m below meth c T0 C X0 e0
  have N0 : Fr Z.heap.size [] := Fr.nil _
  refine Go.iloadN (pc' := 1) C X0 d1_0 rfl rfl ?_
  refine Go.tswIn (pc' := 208) (o := 207) C X0 d1_1 (by decide) (by decide) (by decide) (by decide) ?_
  refine Go.getS (pc' := 211) (host := "") C X0 (Or.inl (hw _ (List.mem_of_getElem? (i := 67) rfl))) Via.refl e0 (S12.ext O0) d1_208 rfl ?_
  intro T1 X1 e1
  exact Go.retA C X1 rfl d1_211 rfl rfl rfl (by rw [e1]; exact ⟨rfl, rfl, rfl⟩) (by decide) (by decide)
theorem d1_212 : decode method_3_code 212 = .ok (.getstatic 60, 3) := by decide +kernel
theorem d1_215 : decode method_3_code 215 = .ok (.areturn, 1) := by decide +kernel
def Q_p13 (Z : State) (w13 : Addr) (h0 : Heap) (v : Option Value) (h : Heap) (L : List Loc) : Prop := v = some (.ref w13) ∧ L = [] ∧ h = h0
set_option maxRecDepth 65536 in
set_option maxHeartbeats 40000000 in
theorem rm_p13 (l : Launch) (Z : State) (a0 : Array Value) (hw : ∀ d ∈ tables_1, d.before a0 Z = true) (w13 : Addr) (h0 : Heap) (O0 : Ext Z.heap h0) (S13 : Sta Z Z.heap "se/bryggan/saml/EidAttribute" "PLACE_OF_BIRTH" "Lse/bryggan/saml/EidAttribute;" (.ref w13)) :
    Met1 l Z (⟨"se/bryggan/saml/EidAttributeIsScopedPinLaw", "pick", "(I)Lse/bryggan/saml/EidAttribute;"⟩ : MethodName) method_3_code 1 (some (.object "se/bryggan/saml/EidAttribute")) ({ frames := 0, cells := 0, slots := 0, locals := 0 } : Room) #[(.int (13 : Int32))] h0 (Q_p13 Z w13 h0) := by
  refine Met1.of_body (Ls := #[.val (.int (13 : Int32))]) pf_1 (fun m => by first | (simp [entryFrame, mkF, argsToLocals, Value.category]; done) | rfl) ?_
  intro p e s m below meth c T0 C X0 e0
  have N0 : Fr Z.heap.size [] := Fr.nil _
  refine Go.iloadN (pc' := 1) C X0 d1_0 rfl rfl ?_
  refine Go.tswIn (pc' := 212) (o := 211) C X0 d1_1 (by decide) (by decide) (by decide) (by decide) ?_
  refine Go.getS (pc' := 215) (host := "") C X0 (Or.inl (hw _ (List.mem_of_getElem? (i := 59) rfl))) Via.refl e0 (S13.ext O0) d1_212 rfl ?_
  intro T1 X1 e1
  exact Go.retA C X1 rfl d1_215 rfl rfl rfl (by rw [e1]; exact ⟨rfl, rfl, rfl⟩) (by decide) (by decide)
theorem d1_216 : decode method_3_code 216 = .ok (.getstatic 63, 3) := by decide +kernel
theorem d1_219 : decode method_3_code 219 = .ok (.areturn, 1) := by decide +kernel
def Q_p14 (Z : State) (w14 : Addr) (h0 : Heap) (v : Option Value) (h : Heap) (L : List Loc) : Prop := v = some (.ref w14) ∧ L = [] ∧ h = h0
set_option maxRecDepth 65536 in
set_option maxHeartbeats 40000000 in
theorem rm_p14 (l : Launch) (Z : State) (a0 : Array Value) (hw : ∀ d ∈ tables_1, d.before a0 Z = true) (w14 : Addr) (h0 : Heap) (O0 : Ext Z.heap h0) (S14 : Sta Z Z.heap "se/bryggan/saml/EidAttribute" "COUNTRY_OF_CITIZENSHIP" "Lse/bryggan/saml/EidAttribute;" (.ref w14)) :
    Met1 l Z (⟨"se/bryggan/saml/EidAttributeIsScopedPinLaw", "pick", "(I)Lse/bryggan/saml/EidAttribute;"⟩ : MethodName) method_3_code 1 (some (.object "se/bryggan/saml/EidAttribute")) ({ frames := 0, cells := 0, slots := 0, locals := 0 } : Room) #[(.int (14 : Int32))] h0 (Q_p14 Z w14 h0) := by
  refine Met1.of_body (Ls := #[.val (.int (14 : Int32))]) pf_1 (fun m => by first | (simp [entryFrame, mkF, argsToLocals, Value.category]; done) | rfl) ?_
  intro p e s m below meth c T0 C X0 e0
  have N0 : Fr Z.heap.size [] := Fr.nil _
  refine Go.iloadN (pc' := 1) C X0 d1_0 rfl rfl ?_
  refine Go.tswIn (pc' := 216) (o := 215) C X0 d1_1 (by decide) (by decide) (by decide) (by decide) ?_
  refine Go.getS (pc' := 219) (host := "") C X0 (Or.inl (hw _ (List.mem_of_getElem? (i := 35) rfl))) Via.refl e0 (S14.ext O0) d1_216 rfl ?_
  intro T1 X1 e1
  exact Go.retA C X1 rfl d1_219 rfl rfl rfl (by rw [e1]; exact ⟨rfl, rfl, rfl⟩) (by decide) (by decide)
theorem d1_220 : decode method_3_code 220 = .ok (.getstatic 66, 3) := by decide +kernel
theorem d1_223 : decode method_3_code 223 = .ok (.areturn, 1) := by decide +kernel
def Q_p15 (Z : State) (w15 : Addr) (h0 : Heap) (v : Option Value) (h : Heap) (L : List Loc) : Prop := v = some (.ref w15) ∧ L = [] ∧ h = h0
set_option maxRecDepth 65536 in
set_option maxHeartbeats 40000000 in
theorem rm_p15 (l : Launch) (Z : State) (a0 : Array Value) (hw : ∀ d ∈ tables_1, d.before a0 Z = true) (w15 : Addr) (h0 : Heap) (O0 : Ext Z.heap h0) (S15 : Sta Z Z.heap "se/bryggan/saml/EidAttribute" "COUNTRY_OF_RESIDENCE" "Lse/bryggan/saml/EidAttribute;" (.ref w15)) :
    Met1 l Z (⟨"se/bryggan/saml/EidAttributeIsScopedPinLaw", "pick", "(I)Lse/bryggan/saml/EidAttribute;"⟩ : MethodName) method_3_code 1 (some (.object "se/bryggan/saml/EidAttribute")) ({ frames := 0, cells := 0, slots := 0, locals := 0 } : Room) #[(.int (15 : Int32))] h0 (Q_p15 Z w15 h0) := by
  refine Met1.of_body (Ls := #[.val (.int (15 : Int32))]) pf_1 (fun m => by first | (simp [entryFrame, mkF, argsToLocals, Value.category]; done) | rfl) ?_
  intro p e s m below meth c T0 C X0 e0
  have N0 : Fr Z.heap.size [] := Fr.nil _
  refine Go.iloadN (pc' := 1) C X0 d1_0 rfl rfl ?_
  refine Go.tswIn (pc' := 220) (o := 219) C X0 d1_1 (by decide) (by decide) (by decide) (by decide) ?_
  refine Go.getS (pc' := 223) (host := "") C X0 (Or.inl (hw _ (List.mem_of_getElem? (i := 51) rfl))) Via.refl e0 (S15.ext O0) d1_220 rfl ?_
  intro T1 X1 e1
  exact Go.retA C X1 rfl d1_223 rfl rfl rfl (by rw [e1]; exact ⟨rfl, rfl, rfl⟩) (by decide) (by decide)
theorem d1_224 : decode method_3_code 224 = .ok (.getstatic 69, 3) := by decide +kernel
theorem d1_227 : decode method_3_code 227 = .ok (.areturn, 1) := by decide +kernel
def Q_p16 (Z : State) (w16 : Addr) (h0 : Heap) (v : Option Value) (h : Heap) (L : List Loc) : Prop := v = some (.ref w16) ∧ L = [] ∧ h = h0
set_option maxRecDepth 65536 in
set_option maxHeartbeats 40000000 in
theorem rm_p16 (l : Launch) (Z : State) (a0 : Array Value) (hw : ∀ d ∈ tables_1, d.before a0 Z = true) (w16 : Addr) (h0 : Heap) (O0 : Ext Z.heap h0) (S16 : Sta Z Z.heap "se/bryggan/saml/EidAttribute" "TELEPHONE_NUMBER" "Lse/bryggan/saml/EidAttribute;" (.ref w16)) :
    Met1 l Z (⟨"se/bryggan/saml/EidAttributeIsScopedPinLaw", "pick", "(I)Lse/bryggan/saml/EidAttribute;"⟩ : MethodName) method_3_code 1 (some (.object "se/bryggan/saml/EidAttribute")) ({ frames := 0, cells := 0, slots := 0, locals := 0 } : Room) #[(.int (16 : Int32))] h0 (Q_p16 Z w16 h0) := by
  refine Met1.of_body (Ls := #[.val (.int (16 : Int32))]) pf_1 (fun m => by first | (simp [entryFrame, mkF, argsToLocals, Value.category]; done) | rfl) ?_
  intro p e s m below meth c T0 C X0 e0
  have N0 : Fr Z.heap.size [] := Fr.nil _
  refine Go.iloadN (pc' := 1) C X0 d1_0 rfl rfl ?_
  refine Go.tswIn (pc' := 224) (o := 223) C X0 d1_1 (by decide) (by decide) (by decide) (by decide) ?_
  refine Go.getS (pc' := 227) (host := "") C X0 (Or.inl (hw _ (List.mem_of_getElem? (i := 19) rfl))) Via.refl e0 (S16.ext O0) d1_224 rfl ?_
  intro T1 X1 e1
  exact Go.retA C X1 rfl d1_227 rfl rfl rfl (by rw [e1]; exact ⟨rfl, rfl, rfl⟩) (by decide) (by decide)
theorem d1_228 : decode method_3_code 228 = .ok (.getstatic 72, 3) := by decide +kernel
theorem d1_231 : decode method_3_code 231 = .ok (.areturn, 1) := by decide +kernel
def Q_p17 (Z : State) (w17 : Addr) (h0 : Heap) (v : Option Value) (h : Heap) (L : List Loc) : Prop := v = some (.ref w17) ∧ L = [] ∧ h = h0
set_option maxRecDepth 65536 in
set_option maxHeartbeats 40000000 in
theorem rm_p17 (l : Launch) (Z : State) (a0 : Array Value) (hw : ∀ d ∈ tables_1, d.before a0 Z = true) (w17 : Addr) (h0 : Heap) (O0 : Ext Z.heap h0) (S17 : Sta Z Z.heap "se/bryggan/saml/EidAttribute" "MOBILE" "Lse/bryggan/saml/EidAttribute;" (.ref w17)) :
    Met1 l Z (⟨"se/bryggan/saml/EidAttributeIsScopedPinLaw", "pick", "(I)Lse/bryggan/saml/EidAttribute;"⟩ : MethodName) method_3_code 1 (some (.object "se/bryggan/saml/EidAttribute")) ({ frames := 0, cells := 0, slots := 0, locals := 0 } : Room) #[(.int (17 : Int32))] h0 (Q_p17 Z w17 h0) := by
  refine Met1.of_body (Ls := #[.val (.int (17 : Int32))]) pf_1 (fun m => by first | (simp [entryFrame, mkF, argsToLocals, Value.category]; done) | rfl) ?_
  intro p e s m below meth c T0 C X0 e0
  have N0 : Fr Z.heap.size [] := Fr.nil _
  refine Go.iloadN (pc' := 1) C X0 d1_0 rfl rfl ?_
  refine Go.tswIn (pc' := 228) (o := 227) C X0 d1_1 (by decide) (by decide) (by decide) (by decide) ?_
  refine Go.getS (pc' := 231) (host := "") C X0 (Or.inl (hw _ (List.mem_of_getElem? (i := 69) rfl))) Via.refl e0 (S17.ext O0) d1_228 rfl ?_
  intro T1 X1 e1
  exact Go.retA C X1 rfl d1_231 rfl rfl rfl (by rw [e1]; exact ⟨rfl, rfl, rfl⟩) (by decide) (by decide)
theorem d1_232 : decode method_3_code 232 = .ok (.getstatic 75, 3) := by decide +kernel
theorem d1_235 : decode method_3_code 235 = .ok (.areturn, 1) := by decide +kernel
def Q_p18 (Z : State) (w18 : Addr) (h0 : Heap) (v : Option Value) (h : Heap) (L : List Loc) : Prop := v = some (.ref w18) ∧ L = [] ∧ h = h0
set_option maxRecDepth 65536 in
set_option maxHeartbeats 40000000 in
theorem rm_p18 (l : Launch) (Z : State) (a0 : Array Value) (hw : ∀ d ∈ tables_1, d.before a0 Z = true) (w18 : Addr) (h0 : Heap) (O0 : Ext Z.heap h0) (S18 : Sta Z Z.heap "se/bryggan/saml/EidAttribute" "MAIL" "Lse/bryggan/saml/EidAttribute;" (.ref w18)) :
    Met1 l Z (⟨"se/bryggan/saml/EidAttributeIsScopedPinLaw", "pick", "(I)Lse/bryggan/saml/EidAttribute;"⟩ : MethodName) method_3_code 1 (some (.object "se/bryggan/saml/EidAttribute")) ({ frames := 0, cells := 0, slots := 0, locals := 0 } : Room) #[(.int (18 : Int32))] h0 (Q_p18 Z w18 h0) := by
  refine Met1.of_body (Ls := #[.val (.int (18 : Int32))]) pf_1 (fun m => by first | (simp [entryFrame, mkF, argsToLocals, Value.category]; done) | rfl) ?_
  intro p e s m below meth c T0 C X0 e0
  have N0 : Fr Z.heap.size [] := Fr.nil _
  refine Go.iloadN (pc' := 1) C X0 d1_0 rfl rfl ?_
  refine Go.tswIn (pc' := 232) (o := 231) C X0 d1_1 (by decide) (by decide) (by decide) (by decide) ?_
  refine Go.getS (pc' := 235) (host := "") C X0 (Or.inl (hw _ (List.mem_of_getElem? (i := 55) rfl))) Via.refl e0 (S18.ext O0) d1_232 rfl ?_
  intro T1 X1 e1
  exact Go.retA C X1 rfl d1_235 rfl rfl rfl (by rw [e1]; exact ⟨rfl, rfl, rfl⟩) (by decide) (by decide)
theorem d1_236 : decode method_3_code 236 = .ok (.getstatic 78, 3) := by decide +kernel
theorem d1_239 : decode method_3_code 239 = .ok (.areturn, 1) := by decide +kernel
def Q_p19 (Z : State) (w19 : Addr) (h0 : Heap) (v : Option Value) (h : Heap) (L : List Loc) : Prop := v = some (.ref w19) ∧ L = [] ∧ h = h0
set_option maxRecDepth 65536 in
set_option maxHeartbeats 40000000 in
theorem rm_p19 (l : Launch) (Z : State) (a0 : Array Value) (hw : ∀ d ∈ tables_1, d.before a0 Z = true) (w19 : Addr) (h0 : Heap) (O0 : Ext Z.heap h0) (S19 : Sta Z Z.heap "se/bryggan/saml/EidAttribute" "O" "Lse/bryggan/saml/EidAttribute;" (.ref w19)) :
    Met1 l Z (⟨"se/bryggan/saml/EidAttributeIsScopedPinLaw", "pick", "(I)Lse/bryggan/saml/EidAttribute;"⟩ : MethodName) method_3_code 1 (some (.object "se/bryggan/saml/EidAttribute")) ({ frames := 0, cells := 0, slots := 0, locals := 0 } : Room) #[(.int (19 : Int32))] h0 (Q_p19 Z w19 h0) := by
  refine Met1.of_body (Ls := #[.val (.int (19 : Int32))]) pf_1 (fun m => by first | (simp [entryFrame, mkF, argsToLocals, Value.category]; done) | rfl) ?_
  intro p e s m below meth c T0 C X0 e0
  have N0 : Fr Z.heap.size [] := Fr.nil _
  refine Go.iloadN (pc' := 1) C X0 d1_0 rfl rfl ?_
  refine Go.tswIn (pc' := 236) (o := 235) C X0 d1_1 (by decide) (by decide) (by decide) (by decide) ?_
  refine Go.getS (pc' := 239) (host := "") C X0 (Or.inl (hw _ (List.mem_of_getElem? (i := 49) rfl))) Via.refl e0 (S19.ext O0) d1_236 rfl ?_
  intro T1 X1 e1
  exact Go.retA C X1 rfl d1_239 rfl rfl rfl (by rw [e1]; exact ⟨rfl, rfl, rfl⟩) (by decide) (by decide)
theorem d1_240 : decode method_3_code 240 = .ok (.getstatic 81, 3) := by decide +kernel
theorem d1_243 : decode method_3_code 243 = .ok (.areturn, 1) := by decide +kernel
def Q_p20 (Z : State) (w20 : Addr) (h0 : Heap) (v : Option Value) (h : Heap) (L : List Loc) : Prop := v = some (.ref w20) ∧ L = [] ∧ h = h0
set_option maxRecDepth 65536 in
set_option maxHeartbeats 40000000 in
theorem rm_p20 (l : Launch) (Z : State) (a0 : Array Value) (hw : ∀ d ∈ tables_1, d.before a0 Z = true) (w20 : Addr) (h0 : Heap) (O0 : Ext Z.heap h0) (S20 : Sta Z Z.heap "se/bryggan/saml/EidAttribute" "OU" "Lse/bryggan/saml/EidAttribute;" (.ref w20)) :
    Met1 l Z (⟨"se/bryggan/saml/EidAttributeIsScopedPinLaw", "pick", "(I)Lse/bryggan/saml/EidAttribute;"⟩ : MethodName) method_3_code 1 (some (.object "se/bryggan/saml/EidAttribute")) ({ frames := 0, cells := 0, slots := 0, locals := 0 } : Room) #[(.int (20 : Int32))] h0 (Q_p20 Z w20 h0) := by
  refine Met1.of_body (Ls := #[.val (.int (20 : Int32))]) pf_1 (fun m => by first | (simp [entryFrame, mkF, argsToLocals, Value.category]; done) | rfl) ?_
  intro p e s m below meth c T0 C X0 e0
  have N0 : Fr Z.heap.size [] := Fr.nil _
  refine Go.iloadN (pc' := 1) C X0 d1_0 rfl rfl ?_
  refine Go.tswIn (pc' := 240) (o := 239) C X0 d1_1 (by decide) (by decide) (by decide) (by decide) ?_
  refine Go.getS (pc' := 243) (host := "") C X0 (Or.inl (hw _ (List.mem_of_getElem? (i := 78) rfl))) Via.refl e0 (S20.ext O0) d1_240 rfl ?_
  intro T1 X1 e1
  exact Go.retA C X1 rfl d1_243 rfl rfl rfl (by rw [e1]; exact ⟨rfl, rfl, rfl⟩) (by decide) (by decide)
theorem d1_244 : decode method_3_code 244 = .ok (.getstatic 84, 3) := by decide +kernel
theorem d1_247 : decode method_3_code 247 = .ok (.areturn, 1) := by decide +kernel
def Q_p21 (Z : State) (w21 : Addr) (h0 : Heap) (v : Option Value) (h : Heap) (L : List Loc) : Prop := v = some (.ref w21) ∧ L = [] ∧ h = h0
set_option maxRecDepth 65536 in
set_option maxHeartbeats 40000000 in
theorem rm_p21 (l : Launch) (Z : State) (a0 : Array Value) (hw : ∀ d ∈ tables_1, d.before a0 Z = true) (w21 : Addr) (h0 : Heap) (O0 : Ext Z.heap h0) (S21 : Sta Z Z.heap "se/bryggan/saml/EidAttribute" "ORGANIZATION_IDENTIFIER" "Lse/bryggan/saml/EidAttribute;" (.ref w21)) :
    Met1 l Z (⟨"se/bryggan/saml/EidAttributeIsScopedPinLaw", "pick", "(I)Lse/bryggan/saml/EidAttribute;"⟩ : MethodName) method_3_code 1 (some (.object "se/bryggan/saml/EidAttribute")) ({ frames := 0, cells := 0, slots := 0, locals := 0 } : Room) #[(.int (21 : Int32))] h0 (Q_p21 Z w21 h0) := by
  refine Met1.of_body (Ls := #[.val (.int (21 : Int32))]) pf_1 (fun m => by first | (simp [entryFrame, mkF, argsToLocals, Value.category]; done) | rfl) ?_
  intro p e s m below meth c T0 C X0 e0
  have N0 : Fr Z.heap.size [] := Fr.nil _
  refine Go.iloadN (pc' := 1) C X0 d1_0 rfl rfl ?_
  refine Go.tswIn (pc' := 244) (o := 243) C X0 d1_1 (by decide) (by decide) (by decide) (by decide) ?_
  refine Go.getS (pc' := 247) (host := "") C X0 (Or.inl (hw _ (List.mem_of_getElem? (i := 73) rfl))) Via.refl e0 (S21.ext O0) d1_244 rfl ?_
  intro T1 X1 e1
  exact Go.retA C X1 rfl d1_247 rfl rfl rfl (by rw [e1]; exact ⟨rfl, rfl, rfl⟩) (by decide) (by decide)
theorem d1_248 : decode method_3_code 248 = .ok (.getstatic 87, 3) := by decide +kernel
theorem d1_251 : decode method_3_code 251 = .ok (.areturn, 1) := by decide +kernel
def Q_p22 (Z : State) (w22 : Addr) (h0 : Heap) (v : Option Value) (h : Heap) (L : List Loc) : Prop := v = some (.ref w22) ∧ L = [] ∧ h = h0
set_option maxRecDepth 65536 in
set_option maxHeartbeats 40000000 in
theorem rm_p22 (l : Launch) (Z : State) (a0 : Array Value) (hw : ∀ d ∈ tables_1, d.before a0 Z = true) (w22 : Addr) (h0 : Heap) (O0 : Ext Z.heap h0) (S22 : Sta Z Z.heap "se/bryggan/saml/EidAttribute" "ORG_AFFILIATION" "Lse/bryggan/saml/EidAttribute;" (.ref w22)) :
    Met1 l Z (⟨"se/bryggan/saml/EidAttributeIsScopedPinLaw", "pick", "(I)Lse/bryggan/saml/EidAttribute;"⟩ : MethodName) method_3_code 1 (some (.object "se/bryggan/saml/EidAttribute")) ({ frames := 0, cells := 0, slots := 0, locals := 0 } : Room) #[(.int (22 : Int32))] h0 (Q_p22 Z w22 h0) := by
  refine Met1.of_body (Ls := #[.val (.int (22 : Int32))]) pf_1 (fun m => by first | (simp [entryFrame, mkF, argsToLocals, Value.category]; done) | rfl) ?_
  intro p e s m below meth c T0 C X0 e0
  have N0 : Fr Z.heap.size [] := Fr.nil _
  refine Go.iloadN (pc' := 1) C X0 d1_0 rfl rfl ?_
  refine Go.tswIn (pc' := 248) (o := 247) C X0 d1_1 (by decide) (by decide) (by decide) (by decide) ?_
  refine Go.getS (pc' := 251) (host := "") C X0 (Or.inl (hw _ (List.mem_of_getElem? (i := 77) rfl))) Via.refl e0 (S22.ext O0) d1_248 rfl ?_
  intro T1 X1 e1
  exact Go.retA C X1 rfl d1_251 rfl rfl rfl (by rw [e1]; exact ⟨rfl, rfl, rfl⟩) (by decide) (by decide)
theorem d1_252 : decode method_3_code 252 = .ok (.getstatic 90, 3) := by decide +kernel
theorem d1_255 : decode method_3_code 255 = .ok (.areturn, 1) := by decide +kernel
def Q_p23 (Z : State) (w23 : Addr) (h0 : Heap) (v : Option Value) (h : Heap) (L : List Loc) : Prop := v = some (.ref w23) ∧ L = [] ∧ h = h0
set_option maxRecDepth 65536 in
set_option maxHeartbeats 40000000 in
theorem rm_p23 (l : Launch) (Z : State) (a0 : Array Value) (hw : ∀ d ∈ tables_1, d.before a0 Z = true) (w23 : Addr) (h0 : Heap) (O0 : Ext Z.heap h0) (S23 : Sta Z Z.heap "se/bryggan/saml/EidAttribute" "TRANSACTION_IDENTIFIER" "Lse/bryggan/saml/EidAttribute;" (.ref w23)) :
    Met1 l Z (⟨"se/bryggan/saml/EidAttributeIsScopedPinLaw", "pick", "(I)Lse/bryggan/saml/EidAttribute;"⟩ : MethodName) method_3_code 1 (some (.object "se/bryggan/saml/EidAttribute")) ({ frames := 0, cells := 0, slots := 0, locals := 0 } : Room) #[(.int (23 : Int32))] h0 (Q_p23 Z w23 h0) := by
  refine Met1.of_body (Ls := #[.val (.int (23 : Int32))]) pf_1 (fun m => by first | (simp [entryFrame, mkF, argsToLocals, Value.category]; done) | rfl) ?_
  intro p e s m below meth c T0 C X0 e0
  have N0 : Fr Z.heap.size [] := Fr.nil _
  refine Go.iloadN (pc' := 1) C X0 d1_0 rfl rfl ?_
  refine Go.tswIn (pc' := 252) (o := 251) C X0 d1_1 (by decide) (by decide) (by decide) (by decide) ?_
  refine Go.getS (pc' := 255) (host := "") C X0 (Or.inl (hw _ (List.mem_of_getElem? (i := 61) rfl))) Via.refl e0 (S23.ext O0) d1_252 rfl ?_
  intro T1 X1 e1
  exact Go.retA C X1 rfl d1_255 rfl rfl rfl (by rw [e1]; exact ⟨rfl, rfl, rfl⟩) (by decide) (by decide)
theorem d1_256 : decode method_3_code 256 = .ok (.getstatic 93, 3) := by decide +kernel
theorem d1_259 : decode method_3_code 259 = .ok (.areturn, 1) := by decide +kernel
def Q_p24 (Z : State) (w24 : Addr) (h0 : Heap) (v : Option Value) (h : Heap) (L : List Loc) : Prop := v = some (.ref w24) ∧ L = [] ∧ h = h0
set_option maxRecDepth 65536 in
set_option maxHeartbeats 40000000 in
theorem rm_p24 (l : Launch) (Z : State) (a0 : Array Value) (hw : ∀ d ∈ tables_1, d.before a0 Z = true) (w24 : Addr) (h0 : Heap) (O0 : Ext Z.heap h0) (S24 : Sta Z Z.heap "se/bryggan/saml/EidAttribute" "AUTH_CONTEXT_PARAMS" "Lse/bryggan/saml/EidAttribute;" (.ref w24)) :
    Met1 l Z (⟨"se/bryggan/saml/EidAttributeIsScopedPinLaw", "pick", "(I)Lse/bryggan/saml/EidAttribute;"⟩ : MethodName) method_3_code 1 (some (.object "se/bryggan/saml/EidAttribute")) ({ frames := 0, cells := 0, slots := 0, locals := 0 } : Room) #[(.int (24 : Int32))] h0 (Q_p24 Z w24 h0) := by
  refine Met1.of_body (Ls := #[.val (.int (24 : Int32))]) pf_1 (fun m => by first | (simp [entryFrame, mkF, argsToLocals, Value.category]; done) | rfl) ?_
  intro p e s m below meth c T0 C X0 e0
  have N0 : Fr Z.heap.size [] := Fr.nil _
  refine Go.iloadN (pc' := 1) C X0 d1_0 rfl rfl ?_
  refine Go.tswIn (pc' := 256) (o := 255) C X0 d1_1 (by decide) (by decide) (by decide) (by decide) ?_
  refine Go.getS (pc' := 259) (host := "") C X0 (Or.inl (hw _ (List.mem_of_getElem? (i := 82) rfl))) Via.refl e0 (S24.ext O0) d1_256 rfl ?_
  intro T1 X1 e1
  exact Go.retA C X1 rfl d1_259 rfl rfl rfl (by rw [e1]; exact ⟨rfl, rfl, rfl⟩) (by decide) (by decide)
theorem d1_260 : decode method_3_code 260 = .ok (.getstatic 96, 3) := by decide +kernel
theorem d1_263 : decode method_3_code 263 = .ok (.areturn, 1) := by decide +kernel
def Q_p25 (Z : State) (w25 : Addr) (h0 : Heap) (v : Option Value) (h : Heap) (L : List Loc) : Prop := v = some (.ref w25) ∧ L = [] ∧ h = h0
set_option maxRecDepth 65536 in
set_option maxHeartbeats 40000000 in
theorem rm_p25 (l : Launch) (Z : State) (a0 : Array Value) (hw : ∀ d ∈ tables_1, d.before a0 Z = true) (w25 : Addr) (h0 : Heap) (O0 : Ext Z.heap h0) (S25 : Sta Z Z.heap "se/bryggan/saml/EidAttribute" "USER_CERTIFICATE" "Lse/bryggan/saml/EidAttribute;" (.ref w25)) :
    Met1 l Z (⟨"se/bryggan/saml/EidAttributeIsScopedPinLaw", "pick", "(I)Lse/bryggan/saml/EidAttribute;"⟩ : MethodName) method_3_code 1 (some (.object "se/bryggan/saml/EidAttribute")) ({ frames := 0, cells := 0, slots := 0, locals := 0 } : Room) #[(.int (25 : Int32))] h0 (Q_p25 Z w25 h0) := by
  refine Met1.of_body (Ls := #[.val (.int (25 : Int32))]) pf_1 (fun m => by first | (simp [entryFrame, mkF, argsToLocals, Value.category]; done) | rfl) ?_
  intro p e s m below meth c T0 C X0 e0
  have N0 : Fr Z.heap.size [] := Fr.nil _
  refine Go.iloadN (pc' := 1) C X0 d1_0 rfl rfl ?_
  refine Go.tswIn (pc' := 260) (o := 259) C X0 d1_1 (by decide) (by decide) (by decide) (by decide) ?_
  refine Go.getS (pc' := 263) (host := "") C X0 (Or.inl (hw _ (List.mem_of_getElem? (i := 45) rfl))) Via.refl e0 (S25.ext O0) d1_260 rfl ?_
  intro T1 X1 e1
  exact Go.retA C X1 rfl d1_263 rfl rfl rfl (by rw [e1]; exact ⟨rfl, rfl, rfl⟩) (by decide) (by decide)
theorem d1_264 : decode method_3_code 264 = .ok (.getstatic 99, 3) := by decide +kernel
theorem d1_267 : decode method_3_code 267 = .ok (.areturn, 1) := by decide +kernel
def Q_p26 (Z : State) (w26 : Addr) (h0 : Heap) (v : Option Value) (h : Heap) (L : List Loc) : Prop := v = some (.ref w26) ∧ L = [] ∧ h = h0
set_option maxRecDepth 65536 in
set_option maxHeartbeats 40000000 in
theorem rm_p26 (l : Launch) (Z : State) (a0 : Array Value) (hw : ∀ d ∈ tables_1, d.before a0 Z = true) (w26 : Addr) (h0 : Heap) (O0 : Ext Z.heap h0) (S26 : Sta Z Z.heap "se/bryggan/saml/EidAttribute" "USER_SIGNATURE" "Lse/bryggan/saml/EidAttribute;" (.ref w26)) :
    Met1 l Z (⟨"se/bryggan/saml/EidAttributeIsScopedPinLaw", "pick", "(I)Lse/bryggan/saml/EidAttribute;"⟩ : MethodName) method_3_code 1 (some (.object "se/bryggan/saml/EidAttribute")) ({ frames := 0, cells := 0, slots := 0, locals := 0 } : Room) #[(.int (26 : Int32))] h0 (Q_p26 Z w26 h0) := by
  refine Met1.of_body (Ls := #[.val (.int (26 : Int32))]) pf_1 (fun m => by first | (simp [entryFrame, mkF, argsToLocals, Value.category]; done) | rfl) ?_
  intro p e s m below meth c T0 C X0 e0
  have N0 : Fr Z.heap.size [] := Fr.nil _
  refine Go.iloadN (pc' := 1) C X0 d1_0 rfl rfl ?_
  refine Go.tswIn (pc' := 264) (o := 263) C X0 d1_1 (by decide) (by decide) (by decide) (by decide) ?_
  refine Go.getS (pc' := 267) (host := "") C X0 (Or.inl (hw _ (List.mem_of_getElem? (i := 80) rfl))) Via.refl e0 (S26.ext O0) d1_264 rfl ?_
  intro T1 X1 e1
  exact Go.retA C X1 rfl d1_267 rfl rfl rfl (by rw [e1]; exact ⟨rfl, rfl, rfl⟩) (by decide) (by decide)
theorem d1_268 : decode method_3_code 268 = .ok (.getstatic 102, 3) := by decide +kernel
theorem d1_271 : decode method_3_code 271 = .ok (.areturn, 1) := by decide +kernel
def Q_p27 (Z : State) (w27 : Addr) (h0 : Heap) (v : Option Value) (h : Heap) (L : List Loc) : Prop := v = some (.ref w27) ∧ L = [] ∧ h = h0
set_option maxRecDepth 65536 in
set_option maxHeartbeats 40000000 in
theorem rm_p27 (l : Launch) (Z : State) (a0 : Array Value) (hw : ∀ d ∈ tables_1, d.before a0 Z = true) (w27 : Addr) (h0 : Heap) (O0 : Ext Z.heap h0) (S27 : Sta Z Z.heap "se/bryggan/saml/EidAttribute" "AUTH_SERVER_SIGNATURE" "Lse/bryggan/saml/EidAttribute;" (.ref w27)) :
    Met1 l Z (⟨"se/bryggan/saml/EidAttributeIsScopedPinLaw", "pick", "(I)Lse/bryggan/saml/EidAttribute;"⟩ : MethodName) method_3_code 1 (some (.object "se/bryggan/saml/EidAttribute")) ({ frames := 0, cells := 0, slots := 0, locals := 0 } : Room) #[(.int (27 : Int32))] h0 (Q_p27 Z w27 h0) := by
  refine Met1.of_body (Ls := #[.val (.int (27 : Int32))]) pf_1 (fun m => by first | (simp [entryFrame, mkF, argsToLocals, Value.category]; done) | rfl) ?_
  intro p e s m below meth c T0 C X0 e0
  have N0 : Fr Z.heap.size [] := Fr.nil _
  refine Go.iloadN (pc' := 1) C X0 d1_0 rfl rfl ?_
  refine Go.tswIn (pc' := 268) (o := 267) C X0 d1_1 (by decide) (by decide) (by decide) (by decide) ?_
  refine Go.getS (pc' := 271) (host := "") C X0 (Or.inl (hw _ (List.mem_of_getElem? (i := 41) rfl))) Via.refl e0 (S27.ext O0) d1_268 rfl ?_
  intro T1 X1 e1
  exact Go.retA C X1 rfl d1_271 rfl rfl rfl (by rw [e1]; exact ⟨rfl, rfl, rfl⟩) (by decide) (by decide)
theorem d1_272 : decode method_3_code 272 = .ok (.getstatic 105, 3) := by decide +kernel
theorem d1_275 : decode method_3_code 275 = .ok (.areturn, 1) := by decide +kernel
def Q_p28 (Z : State) (w28 : Addr) (h0 : Heap) (v : Option Value) (h : Heap) (L : List Loc) : Prop := v = some (.ref w28) ∧ L = [] ∧ h = h0
set_option maxRecDepth 65536 in
set_option maxHeartbeats 40000000 in
theorem rm_p28 (l : Launch) (Z : State) (a0 : Array Value) (hw : ∀ d ∈ tables_1, d.before a0 Z = true) (w28 : Addr) (h0 : Heap) (O0 : Ext Z.heap h0) (S28 : Sta Z Z.heap "se/bryggan/saml/EidAttribute" "SAD" "Lse/bryggan/saml/EidAttribute;" (.ref w28)) :
    Met1 l Z (⟨"se/bryggan/saml/EidAttributeIsScopedPinLaw", "pick", "(I)Lse/bryggan/saml/EidAttribute;"⟩ : MethodName) method_3_code 1 (some (.object "se/bryggan/saml/EidAttribute")) ({ frames := 0, cells := 0, slots := 0, locals := 0 } : Room) #[(.int (28 : Int32))] h0 (Q_p28 Z w28 h0) := by
  refine Met1.of_body (Ls := #[.val (.int (28 : Int32))]) pf_1 (fun m => by first | (simp [entryFrame, mkF, argsToLocals, Value.category]; done) | rfl) ?_
  intro p e s m below meth c T0 C X0 e0
  have N0 : Fr Z.heap.size [] := Fr.nil _
  refine Go.iloadN (pc' := 1) C X0 d1_0 rfl rfl ?_
  refine Go.tswIn (pc' := 272) (o := 271) C X0 d1_1 (by decide) (by decide) (by decide) (by decide) ?_
  refine Go.getS (pc' := 275) (host := "") C X0 (Or.inl (hw _ (List.mem_of_getElem? (i := 53) rfl))) Via.refl e0 (S28.ext O0) d1_272 rfl ?_
  intro T1 X1 e1
  exact Go.retA C X1 rfl d1_275 rfl rfl rfl (by rw [e1]; exact ⟨rfl, rfl, rfl⟩) (by decide) (by decide)
theorem d1_276 : decode method_3_code 276 = .ok (.getstatic 108, 3) := by decide +kernel
theorem d1_279 : decode method_3_code 279 = .ok (.areturn, 1) := by decide +kernel
def Q_p29 (Z : State) (w29 : Addr) (h0 : Heap) (v : Option Value) (h : Heap) (L : List Loc) : Prop := v = some (.ref w29) ∧ L = [] ∧ h = h0
set_option maxRecDepth 65536 in
set_option maxHeartbeats 40000000 in
theorem rm_p29 (l : Launch) (Z : State) (a0 : Array Value) (hw : ∀ d ∈ tables_1, d.before a0 Z = true) (w29 : Addr) (h0 : Heap) (O0 : Ext Z.heap h0) (S29 : Sta Z Z.heap "se/bryggan/saml/EidAttribute" "SIGN_MESSAGE_DIGEST" "Lse/bryggan/saml/EidAttribute;" (.ref w29)) :
    Met1 l Z (⟨"se/bryggan/saml/EidAttributeIsScopedPinLaw", "pick", "(I)Lse/bryggan/saml/EidAttribute;"⟩ : MethodName) method_3_code 1 (some (.object "se/bryggan/saml/EidAttribute")) ({ frames := 0, cells := 0, slots := 0, locals := 0 } : Room) #[(.int (29 : Int32))] h0 (Q_p29 Z w29 h0) := by
  refine Met1.of_body (Ls := #[.val (.int (29 : Int32))]) pf_1 (fun m => by first | (simp [entryFrame, mkF, argsToLocals, Value.category]; done) | rfl) ?_
  intro p e s m below meth c T0 C X0 e0
  have N0 : Fr Z.heap.size [] := Fr.nil _
  refine Go.iloadN (pc' := 1) C X0 d1_0 rfl rfl ?_
  refine Go.tswIn (pc' := 276) (o := 275) C X0 d1_1 (by decide) (by decide) (by decide) (by decide) ?_
  refine Go.getS (pc' := 279) (host := "") C X0 (Or.inl (hw _ (List.mem_of_getElem? (i := 39) rfl))) Via.refl e0 (S29.ext O0) d1_276 rfl ?_
  intro T1 X1 e1
  exact Go.retA C X1 rfl d1_279 rfl rfl rfl (by rw [e1]; exact ⟨rfl, rfl, rfl⟩) (by decide) (by decide)
theorem d1_280 : decode method_3_code 280 = .ok (.getstatic 111, 3) := by decide +kernel
theorem d1_283 : decode method_3_code 283 = .ok (.areturn, 1) := by decide +kernel
def Q_p30 (Z : State) (w30 : Addr) (h0 : Heap) (v : Option Value) (h : Heap) (L : List Loc) : Prop := v = some (.ref w30) ∧ L = [] ∧ h = h0
set_option maxRecDepth 65536 in
set_option maxHeartbeats 40000000 in
theorem rm_p30 (l : Launch) (Z : State) (a0 : Array Value) (hw : ∀ d ∈ tables_1, d.before a0 Z = true) (w30 : Addr) (h0 : Heap) (O0 : Ext Z.heap h0) (S30 : Sta Z Z.heap "se/bryggan/saml/EidAttribute" "PRID" "Lse/bryggan/saml/EidAttribute;" (.ref w30)) :
    Met1 l Z (⟨"se/bryggan/saml/EidAttributeIsScopedPinLaw", "pick", "(I)Lse/bryggan/saml/EidAttribute;"⟩ : MethodName) method_3_code 1 (some (.object "se/bryggan/saml/EidAttribute")) ({ frames := 0, cells := 0, slots := 0, locals := 0 } : Room) #[(.int (30 : Int32))] h0 (Q_p30 Z w30 h0) := by
  refine Met1.of_body (Ls := #[.val (.int (30 : Int32))]) pf_1 (fun m => by first | (simp [entryFrame, mkF, argsToLocals, Value.category]; done) | rfl) ?_
  intro p e s m below meth c T0 C X0 e0
  have N0 : Fr Z.heap.size [] := Fr.nil _
  refine Go.iloadN (pc' := 1) C X0 d1_0 rfl rfl ?_
  refine Go.tswIn (pc' := 280) (o := 279) C X0 d1_1 (by decide) (by decide) (by decide) (by decide) ?_
  refine Go.getS (pc' := 283) (host := "") C X0 (Or.inl (hw _ (List.mem_of_getElem? (i := 71) rfl))) Via.refl e0 (S30.ext O0) d1_280 rfl ?_
  intro T1 X1 e1
  exact Go.retA C X1 rfl d1_283 rfl rfl rfl (by rw [e1]; exact ⟨rfl, rfl, rfl⟩) (by decide) (by decide)
theorem d1_284 : decode method_3_code 284 = .ok (.getstatic 114, 3) := by decide +kernel
theorem d1_287 : decode method_3_code 287 = .ok (.areturn, 1) := by decide +kernel
def Q_p31 (Z : State) (w31 : Addr) (h0 : Heap) (v : Option Value) (h : Heap) (L : List Loc) : Prop := v = some (.ref w31) ∧ L = [] ∧ h = h0
set_option maxRecDepth 65536 in
set_option maxHeartbeats 40000000 in
theorem rm_p31 (l : Launch) (Z : State) (a0 : Array Value) (hw : ∀ d ∈ tables_1, d.before a0 Z = true) (w31 : Addr) (h0 : Heap) (O0 : Ext Z.heap h0) (S31 : Sta Z Z.heap "se/bryggan/saml/EidAttribute" "PRID_PERSISTENCE" "Lse/bryggan/saml/EidAttribute;" (.ref w31)) :
    Met1 l Z (⟨"se/bryggan/saml/EidAttributeIsScopedPinLaw", "pick", "(I)Lse/bryggan/saml/EidAttribute;"⟩ : MethodName) method_3_code 1 (some (.object "se/bryggan/saml/EidAttribute")) ({ frames := 0, cells := 0, slots := 0, locals := 0 } : Room) #[(.int (31 : Int32))] h0 (Q_p31 Z w31 h0) := by
  refine Met1.of_body (Ls := #[.val (.int (31 : Int32))]) pf_1 (fun m => by first | (simp [entryFrame, mkF, argsToLocals, Value.category]; done) | rfl) ?_
  intro p e s m below meth c T0 C X0 e0
  have N0 : Fr Z.heap.size [] := Fr.nil _
  refine Go.iloadN (pc' := 1) C X0 d1_0 rfl rfl ?_
  refine Go.tswIn (pc' := 284) (o := 283) C X0 d1_1 (by decide) (by decide) (by decide) (by decide) ?_
  refine Go.getS (pc' := 287) (host := "") C X0 (Or.inl (hw _ (List.mem_of_getElem? (i := 84) rfl))) Via.refl e0 (S31.ext O0) d1_284 rfl ?_
  intro T1 X1 e1
  exact Go.retA C X1 rfl d1_287 rfl rfl rfl (by rw [e1]; exact ⟨rfl, rfl, rfl⟩) (by decide) (by decide)
theorem d1_288 : decode method_3_code 288 = .ok (.getstatic 117, 3) := by decide +kernel
theorem d1_291 : decode method_3_code 291 = .ok (.areturn, 1) := by decide +kernel
def Q_p32 (Z : State) (w32 : Addr) (h0 : Heap) (v : Option Value) (h : Heap) (L : List Loc) : Prop := v = some (.ref w32) ∧ L = [] ∧ h = h0
set_option maxRecDepth 65536 in
set_option maxHeartbeats 40000000 in
theorem rm_p32 (l : Launch) (Z : State) (a0 : Array Value) (hw : ∀ d ∈ tables_1, d.before a0 Z = true) (w32 : Addr) (h0 : Heap) (O0 : Ext Z.heap h0) (S32 : Sta Z Z.heap "se/bryggan/saml/EidAttribute" "PERSONAL_IDENTITY_NUMBER_BINDING" "Lse/bryggan/saml/EidAttribute;" (.ref w32)) :
    Met1 l Z (⟨"se/bryggan/saml/EidAttributeIsScopedPinLaw", "pick", "(I)Lse/bryggan/saml/EidAttribute;"⟩ : MethodName) method_3_code 1 (some (.object "se/bryggan/saml/EidAttribute")) ({ frames := 0, cells := 0, slots := 0, locals := 0 } : Room) #[(.int (32 : Int32))] h0 (Q_p32 Z w32 h0) := by
  refine Met1.of_body (Ls := #[.val (.int (32 : Int32))]) pf_1 (fun m => by first | (simp [entryFrame, mkF, argsToLocals, Value.category]; done) | rfl) ?_
  intro p e s m below meth c T0 C X0 e0
  have N0 : Fr Z.heap.size [] := Fr.nil _
  refine Go.iloadN (pc' := 1) C X0 d1_0 rfl rfl ?_
  refine Go.tswIn (pc' := 288) (o := 287) C X0 d1_1 (by decide) (by decide) (by decide) (by decide) ?_
  refine Go.getS (pc' := 291) (host := "") C X0 (Or.inl (hw _ (List.mem_of_getElem? (i := 47) rfl))) Via.refl e0 (S32.ext O0) d1_288 rfl ?_
  intro T1 X1 e1
  exact Go.retA C X1 rfl d1_291 rfl rfl rfl (by rw [e1]; exact ⟨rfl, rfl, rfl⟩) (by decide) (by decide)
theorem d1_292 : decode method_3_code 292 = .ok (.getstatic 120, 3) := by decide +kernel
theorem d1_295 : decode method_3_code 295 = .ok (.areturn, 1) := by decide +kernel
def Q_p33 (Z : State) (w33 : Addr) (h0 : Heap) (v : Option Value) (h : Heap) (L : List Loc) : Prop := v = some (.ref w33) ∧ L = [] ∧ h = h0
set_option maxRecDepth 65536 in
set_option maxHeartbeats 40000000 in
theorem rm_p33 (l : Launch) (Z : State) (a0 : Array Value) (hw : ∀ d ∈ tables_1, d.before a0 Z = true) (w33 : Addr) (h0 : Heap) (O0 : Ext Z.heap h0) (S33 : Sta Z Z.heap "se/bryggan/saml/EidAttribute" "MAPPED_PERSONAL_IDENTITY_NUMBER" "Lse/bryggan/saml/EidAttribute;" (.ref w33)) :
    Met1 l Z (⟨"se/bryggan/saml/EidAttributeIsScopedPinLaw", "pick", "(I)Lse/bryggan/saml/EidAttribute;"⟩ : MethodName) method_3_code 1 (some (.object "se/bryggan/saml/EidAttribute")) ({ frames := 0, cells := 0, slots := 0, locals := 0 } : Room) #[(.int (33 : Int32))] h0 (Q_p33 Z w33 h0) := by
  refine Met1.of_body (Ls := #[.val (.int (33 : Int32))]) pf_1 (fun m => by first | (simp [entryFrame, mkF, argsToLocals, Value.category]; done) | rfl) ?_
  intro p e s m below meth c T0 C X0 e0
  have N0 : Fr Z.heap.size [] := Fr.nil _
  refine Go.iloadN (pc' := 1) C X0 d1_0 rfl rfl ?_
  refine Go.tswIn (pc' := 292) (o := 291) C X0 d1_1 (by decide) (by decide) (by decide) (by decide) ?_
  refine Go.getS (pc' := 295) (host := "") C X0 (Or.inl (hw _ (List.mem_of_getElem? (i := 43) rfl))) Via.refl e0 (S33.ext O0) d1_292 rfl ?_
  intro T1 X1 e1
  exact Go.retA C X1 rfl d1_295 rfl rfl rfl (by rw [e1]; exact ⟨rfl, rfl, rfl⟩) (by decide) (by decide)
theorem d1_296 : decode method_3_code 296 = .ok (.getstatic 123, 3) := by decide +kernel
theorem d1_299 : decode method_3_code 299 = .ok (.areturn, 1) := by decide +kernel
def Q_p34 (Z : State) (w34 : Addr) (h0 : Heap) (v : Option Value) (h : Heap) (L : List Loc) : Prop := v = some (.ref w34) ∧ L = [] ∧ h = h0
set_option maxRecDepth 65536 in
set_option maxHeartbeats 40000000 in
theorem rm_p34 (l : Launch) (Z : State) (a0 : Array Value) (hw : ∀ d ∈ tables_1, d.before a0 Z = true) (w34 : Addr) (h0 : Heap) (O0 : Ext Z.heap h0) (S34 : Sta Z Z.heap "se/bryggan/saml/EidAttribute" "EIDAS_PERSON_IDENTIFIER" "Lse/bryggan/saml/EidAttribute;" (.ref w34)) :
    Met1 l Z (⟨"se/bryggan/saml/EidAttributeIsScopedPinLaw", "pick", "(I)Lse/bryggan/saml/EidAttribute;"⟩ : MethodName) method_3_code 1 (some (.object "se/bryggan/saml/EidAttribute")) ({ frames := 0, cells := 0, slots := 0, locals := 0 } : Room) #[(.int (34 : Int32))] h0 (Q_p34 Z w34 h0) := by
  refine Met1.of_body (Ls := #[.val (.int (34 : Int32))]) pf_1 (fun m => by first | (simp [entryFrame, mkF, argsToLocals, Value.category]; done) | rfl) ?_
  intro p e s m below meth c T0 C X0 e0
  have N0 : Fr Z.heap.size [] := Fr.nil _
  refine Go.iloadN (pc' := 1) C X0 d1_0 rfl rfl ?_
  refine Go.tswIn (pc' := 296) (o := 295) C X0 d1_1 (by decide) (by decide) (by decide) (by decide) ?_
  refine Go.getS (pc' := 299) (host := "") C X0 (Or.inl (hw _ (List.mem_of_getElem? (i := 57) rfl))) Via.refl e0 (S34.ext O0) d1_296 rfl ?_
  intro T1 X1 e1
  exact Go.retA C X1 rfl d1_299 rfl rfl rfl (by rw [e1]; exact ⟨rfl, rfl, rfl⟩) (by decide) (by decide)
theorem d1_300 : decode method_3_code 300 = .ok (.getstatic 126, 3) := by decide +kernel
theorem d1_303 : decode method_3_code 303 = .ok (.areturn, 1) := by decide +kernel
def Q_p35 (Z : State) (w35 : Addr) (h0 : Heap) (v : Option Value) (h : Heap) (L : List Loc) : Prop := v = some (.ref w35) ∧ L = [] ∧ h = h0
set_option maxRecDepth 65536 in
set_option maxHeartbeats 40000000 in
theorem rm_p35 (l : Launch) (Z : State) (a0 : Array Value) (hw : ∀ d ∈ tables_1, d.before a0 Z = true) (w35 : Addr) (h0 : Heap) (O0 : Ext Z.heap h0) (S35 : Sta Z Z.heap "se/bryggan/saml/EidAttribute" "EIDAS_NATURAL_PERSON_ADDRESS" "Lse/bryggan/saml/EidAttribute;" (.ref w35)) :
    Met1 l Z (⟨"se/bryggan/saml/EidAttributeIsScopedPinLaw", "pick", "(I)Lse/bryggan/saml/EidAttribute;"⟩ : MethodName) method_3_code 1 (some (.object "se/bryggan/saml/EidAttribute")) ({ frames := 0, cells := 0, slots := 0, locals := 0 } : Room) #[(.int (35 : Int32))] h0 (Q_p35 Z w35 h0) := by
  refine Met1.of_body (Ls := #[.val (.int (35 : Int32))]) pf_1 (fun m => by first | (simp [entryFrame, mkF, argsToLocals, Value.category]; done) | rfl) ?_
  intro p e s m below meth c T0 C X0 e0
  have N0 : Fr Z.heap.size [] := Fr.nil _
  refine Go.iloadN (pc' := 1) C X0 d1_0 rfl rfl ?_
  refine Go.tswIn (pc' := 300) (o := 299) C X0 d1_1 (by decide) (by decide) (by decide) (by decide) ?_
  refine Go.getS (pc' := 303) (host := "") C X0 (Or.inl (hw _ (List.mem_of_getElem? (i := 75) rfl))) Via.refl e0 (S35.ext O0) d1_300 rfl ?_
  intro T1 X1 e1
  exact Go.retA C X1 rfl d1_303 rfl rfl rfl (by rw [e1]; exact ⟨rfl, rfl, rfl⟩) (by decide) (by decide)
theorem d1_304 : decode method_3_code 304 = .ok (.getstatic 129, 3) := by decide +kernel
theorem d1_307 : decode method_3_code 307 = .ok (.areturn, 1) := by decide +kernel
def Q_p36 (Z : State) (w36 : Addr) (h0 : Heap) (v : Option Value) (h : Heap) (L : List Loc) : Prop := v = some (.ref w36) ∧ L = [] ∧ h = h0
set_option maxRecDepth 65536 in
set_option maxHeartbeats 40000000 in
theorem rm_p36 (l : Launch) (Z : State) (a0 : Array Value) (hw : ∀ d ∈ tables_1, d.before a0 Z = true) (w36 : Addr) (h0 : Heap) (O0 : Ext Z.heap h0) (S36 : Sta Z Z.heap "se/bryggan/saml/EidAttribute" "EMPLOYEE_HSA_ID" "Lse/bryggan/saml/EidAttribute;" (.ref w36)) :
    Met1 l Z (⟨"se/bryggan/saml/EidAttributeIsScopedPinLaw", "pick", "(I)Lse/bryggan/saml/EidAttribute;"⟩ : MethodName) method_3_code 1 (some (.object "se/bryggan/saml/EidAttribute")) ({ frames := 0, cells := 0, slots := 0, locals := 0 } : Room) #[(.int (36 : Int32))] h0 (Q_p36 Z w36 h0) := by
  refine Met1.of_body (Ls := #[.val (.int (36 : Int32))]) pf_1 (fun m => by first | (simp [entryFrame, mkF, argsToLocals, Value.category]; done) | rfl) ?_
  intro p e s m below meth c T0 C X0 e0
  have N0 : Fr Z.heap.size [] := Fr.nil _
  refine Go.iloadN (pc' := 1) C X0 d1_0 rfl rfl ?_
  refine Go.tswOut (pc' := 304) C X0 d1_1 (by decide) (by decide) (by decide) ?_
  refine Go.getS (pc' := 307) (host := "") C X0 (Or.inl (hw _ (List.mem_of_getElem? (i := 17) rfl))) Via.refl e0 (S36.ext O0) d1_304 rfl ?_
  intro T1 X1 e1
  exact Go.retA C X1 rfl d1_307 rfl rfl rfl (by rw [e1]; exact ⟨rfl, rfl, rfl⟩) (by decide) (by decide)
theorem pf_2 : plainFor (⟨"se/bryggan/saml/EidAttribute", "isScoped", "()Z"⟩ : MethodName) = true := plainFor_of_name (by first | (simp [plainName, overriddenIn]; done) | decide +kernel)
theorem d2_0 : decode prog_20_method_7_code 0 = .ok (.aload_n 0, 1) := by decide +kernel
theorem d2_1 : decode prog_20_method_7_code 1 = .ok (.getstatic 70, 3) := by decide +kernel
theorem d2_4 : decode prog_20_method_7_code 4 = .ok (.if_acmp .ne 7, 3) := by decide +kernel
theorem d2_7 : decode prog_20_method_7_code 7 = .ok (.iconst 1, 1) := by decide +kernel
theorem d2_8 : decode prog_20_method_7_code 8 = .ok (.goto 4, 3) := by decide +kernel
theorem d2_12 : decode prog_20_method_7_code 12 = .ok (.ireturn, 1) := by decide +kernel
def Q_isT (Z : State) (wo : Addr) (h0 : Heap) (v : Option Value) (h : Heap) (L : List Loc) : Prop := v = some (.int (1 : Int32)) ∧ L = [] ∧ h = h0
set_option maxRecDepth 65536 in
set_option maxHeartbeats 40000000 in
theorem rm_isT (l : Launch) (Z : State) (a0 : Array Value) (hw : ∀ d ∈ tables_1, d.before a0 Z = true) (wo : Addr) (h0 : Heap) (O0 : Ext Z.heap h0) (SO : Sta Z Z.heap "se/bryggan/saml/EidAttribute" "ORG_AFFILIATION" "Lse/bryggan/saml/EidAttribute;" (.ref wo)) :
    Met1 l Z (⟨"se/bryggan/saml/EidAttribute", "isScoped", "()Z"⟩ : MethodName) prog_20_method_7_code 1 (some .boolean) ({ frames := 0, cells := 0, slots := 0, locals := 0 } : Room) #[(.ref wo)] h0 (Q_isT Z wo h0) := by
  refine Met1.of_body (Ls := #[.val (.ref wo)]) pf_2 (fun m => by first | (simp [entryFrame, mkF, argsToLocals, Value.category]; done) | rfl) ?_
  intro p e s m below meth c T0 C X0 e0
  have N0 : Fr Z.heap.size [] := Fr.nil _
  refine Go.aloadN (pc' := 1) C X0 d2_0 rfl rfl rfl ?_
  refine Go.getS (pc' := 4) (host := "") C X0 (Or.inl (hw _ (List.mem_of_getElem? (i := 13) rfl))) Via.refl e0 (SO.ext O0) d2_1 rfl ?_
  intro T1 X1 e1
  refine Go.acmpNo (pc' := 7) C X1 d2_4 rfl rfl (XT.aa_ne_f rfl) rfl ?_
  refine Go.iconst (z := (1 : Int32)) (pc' := 8) C X1 d2_7 rfl rfl ?_
  refine Go.goto (pc' := 12) C X1 d2_8 (by decide) (by decide) ?_
  exact Go.retN C X1 rfl d2_12 (by simp) (by rw [e1]; exact ⟨rfl, rfl, rfl⟩) (by decide) (by decide)
theorem d2_11 : decode prog_20_method_7_code 11 = .ok (.iconst 0, 1) := by decide +kernel
def Q_isF (Z : State) (a1 : Addr) (wo : Addr) (h0 : Heap) (v : Option Value) (h : Heap) (L : List Loc) : Prop := v = some (.int (0 : Int32)) ∧ L = [] ∧ h = h0
set_option maxRecDepth 65536 in
set_option maxHeartbeats 40000000 in
theorem rm_isF (l : Launch) (Z : State) (a0 : Array Value) (hw : ∀ d ∈ tables_1, d.before a0 Z = true) (a1 : Addr) (wo : Addr) (h0 : Heap) (O0 : Ext Z.heap h0) (SO : Sta Z Z.heap "se/bryggan/saml/EidAttribute" "ORG_AFFILIATION" "Lse/bryggan/saml/EidAttribute;" (.ref wo)) (hne : a1 ≠ wo) :
    Met1 l Z (⟨"se/bryggan/saml/EidAttribute", "isScoped", "()Z"⟩ : MethodName) prog_20_method_7_code 1 (some .boolean) ({ frames := 0, cells := 0, slots := 0, locals := 0 } : Room) #[(.ref a1)] h0 (Q_isF Z a1 wo h0) := by
  refine Met1.of_body (Ls := #[.val (.ref a1)]) pf_2 (fun m => by first | (simp [entryFrame, mkF, argsToLocals, Value.category]; done) | rfl) ?_
  intro p e s m below meth c T0 C X0 e0
  have N0 : Fr Z.heap.size [] := Fr.nil _
  refine Go.aloadN (pc' := 1) C X0 d2_0 rfl rfl rfl ?_
  refine Go.getS (pc' := 4) (host := "") C X0 (Or.inl (hw _ (List.mem_of_getElem? (i := 13) rfl))) Via.refl e0 (SO.ext O0) d2_1 rfl ?_
  intro T1 X1 e1
  refine Go.acmpYes (pc' := 11) C X1 d2_4 rfl rfl (XT.aa_ne_t (fun q => hne (Value.ref.inj q))) (by decide) (by decide) ?_
  refine Go.iconst (z := (0 : Int32)) (pc' := 12) C X1 d2_11 rfl rfl ?_
  exact Go.retN C X1 rfl d2_12 (by simp) (by rw [e1]; exact ⟨rfl, rfl, rfl⟩) (by decide) (by decide)
theorem pd_0 : parseMethodDescriptor "(I)Lse/bryggan/saml/EidAttribute;" = some ⟨[.int], some (.object "se/bryggan/saml/EidAttribute")⟩ := by decide +kernel
theorem pd_1 : parseMethodDescriptor "()Z" = some ⟨[], some .boolean⟩ := by decide +kernel
theorem pf_0 : plainFor x = true := plainFor_of_name (by first | (simp [plainName, overriddenIn, x]; done) | decide +kernel)
def Q_law (Z : State) (p1 : Int32) (w0 : Addr) (w1 : Addr) (w2 : Addr) (w3 : Addr) (w4 : Addr) (w5 : Addr) (w6 : Addr) (w7 : Addr) (w8 : Addr) (w9 : Addr) (w10 : Addr) (w11 : Addr) (w12 : Addr) (w13 : Addr) (w14 : Addr) (w15 : Addr) (w16 : Addr) (w17 : Addr) (w18 : Addr) (w19 : Addr) (w20 : Addr) (w21 : Addr) (w22 : Addr) (w23 : Addr) (w24 : Addr) (w25 : Addr) (w26 : Addr) (w27 : Addr) (w28 : Addr) (w29 : Addr) (w30 : Addr) (w31 : Addr) (w32 : Addr) (w33 : Addr) (w34 : Addr) (w35 : Addr) (w36 : Addr) (h0 : Heap) (v : Option Value) (h : Heap) (L : List Loc) : Prop := v = some (.int (1 : Int32)) ∧ Fr Z.heap.size L ∧ Keep h0 h []
set_option maxRecDepth 65536 in
set_option maxHeartbeats 40000000 in
theorem rm_law (l : Launch) (Z : State) (a0 : Array Value) (hw : ∀ d ∈ tables_1, d.before a0 Z = true) (p1 : Int32) (w0 : Addr) (w1 : Addr) (w2 : Addr) (w3 : Addr) (w4 : Addr) (w5 : Addr) (w6 : Addr) (w7 : Addr) (w8 : Addr) (w9 : Addr) (w10 : Addr) (w11 : Addr) (w12 : Addr) (w13 : Addr) (w14 : Addr) (w15 : Addr) (w16 : Addr) (w17 : Addr) (w18 : Addr) (w19 : Addr) (w20 : Addr) (w21 : Addr) (w22 : Addr) (w23 : Addr) (w24 : Addr) (w25 : Addr) (w26 : Addr) (w27 : Addr) (w28 : Addr) (w29 : Addr) (w30 : Addr) (w31 : Addr) (w32 : Addr) (w33 : Addr) (w34 : Addr) (w35 : Addr) (w36 : Addr) (h0 : Heap) (O0 : Ext Z.heap h0) (S0 : Sta Z Z.heap "se/bryggan/saml/EidAttribute" "SN" "Lse/bryggan/saml/EidAttribute;" (.ref w0)) (S1 : Sta Z Z.heap "se/bryggan/saml/EidAttribute" "GIVEN_NAME" "Lse/bryggan/saml/EidAttribute;" (.ref w1)) (S2 : Sta Z Z.heap "se/bryggan/saml/EidAttribute" "DISPLAY_NAME" "Lse/bryggan/saml/EidAttribute;" (.ref w2)) (S3 : Sta Z Z.heap "se/bryggan/saml/EidAttribute" "GENDER" "Lse/bryggan/saml/EidAttribute;" (.ref w3)) (S4 : Sta Z Z.heap "se/bryggan/saml/EidAttribute" "PERSONAL_IDENTITY_NUMBER" "Lse/bryggan/saml/EidAttribute;" (.ref w4)) (S5 : Sta Z Z.heap "se/bryggan/saml/EidAttribute" "PREVIOUS_PERSONAL_IDENTITY_NUMBER" "Lse/bryggan/saml/EidAttribute;" (.ref w5)) (S6 : Sta Z Z.heap "se/bryggan/saml/EidAttribute" "DATE_OF_BIRTH" "Lse/bryggan/saml/EidAttribute;" (.ref w6)) (S7 : Sta Z Z.heap "se/bryggan/saml/EidAttribute" "BIRTH_NAME" "Lse/bryggan/saml/EidAttribute;" (.ref w7)) (S8 : Sta Z Z.heap "se/bryggan/saml/EidAttribute" "STREET" "Lse/bryggan/saml/EidAttribute;" (.ref w8)) (S9 : Sta Z Z.heap "se/bryggan/saml/EidAttribute" "POST_OFFICE_BOX" "Lse/bryggan/saml/EidAttribute;" (.ref w9)) (S10 : Sta Z Z.heap "se/bryggan/saml/EidAttribute" "POSTAL_CODE" "Lse/bryggan/saml/EidAttribute;" (.ref w10)) (S11 : Sta Z Z.heap "se/bryggan/saml/EidAttribute" "L" "Lse/bryggan/saml/EidAttribute;" (.ref w11)) (S12 : Sta Z Z.heap "se/bryggan/saml/EidAttribute" "C" "Lse/bryggan/saml/EidAttribute;" (.ref w12)) (S13 : Sta Z Z.heap "se/bryggan/saml/EidAttribute" "PLACE_OF_BIRTH" "Lse/bryggan/saml/EidAttribute;" (.ref w13)) (S14 : Sta Z Z.heap "se/bryggan/saml/EidAttribute" "COUNTRY_OF_CITIZENSHIP" "Lse/bryggan/saml/EidAttribute;" (.ref w14)) (S15 : Sta Z Z.heap "se/bryggan/saml/EidAttribute" "COUNTRY_OF_RESIDENCE" "Lse/bryggan/saml/EidAttribute;" (.ref w15)) (S16 : Sta Z Z.heap "se/bryggan/saml/EidAttribute" "TELEPHONE_NUMBER" "Lse/bryggan/saml/EidAttribute;" (.ref w16)) (S17 : Sta Z Z.heap "se/bryggan/saml/EidAttribute" "MOBILE" "Lse/bryggan/saml/EidAttribute;" (.ref w17)) (S18 : Sta Z Z.heap "se/bryggan/saml/EidAttribute" "MAIL" "Lse/bryggan/saml/EidAttribute;" (.ref w18)) (S19 : Sta Z Z.heap "se/bryggan/saml/EidAttribute" "O" "Lse/bryggan/saml/EidAttribute;" (.ref w19)) (S20 : Sta Z Z.heap "se/bryggan/saml/EidAttribute" "OU" "Lse/bryggan/saml/EidAttribute;" (.ref w20)) (S21 : Sta Z Z.heap "se/bryggan/saml/EidAttribute" "ORGANIZATION_IDENTIFIER" "Lse/bryggan/saml/EidAttribute;" (.ref w21)) (S22 : Sta Z Z.heap "se/bryggan/saml/EidAttribute" "ORG_AFFILIATION" "Lse/bryggan/saml/EidAttribute;" (.ref w22)) (S23 : Sta Z Z.heap "se/bryggan/saml/EidAttribute" "TRANSACTION_IDENTIFIER" "Lse/bryggan/saml/EidAttribute;" (.ref w23)) (S24 : Sta Z Z.heap "se/bryggan/saml/EidAttribute" "AUTH_CONTEXT_PARAMS" "Lse/bryggan/saml/EidAttribute;" (.ref w24)) (S25 : Sta Z Z.heap "se/bryggan/saml/EidAttribute" "USER_CERTIFICATE" "Lse/bryggan/saml/EidAttribute;" (.ref w25)) (S26 : Sta Z Z.heap "se/bryggan/saml/EidAttribute" "USER_SIGNATURE" "Lse/bryggan/saml/EidAttribute;" (.ref w26)) (S27 : Sta Z Z.heap "se/bryggan/saml/EidAttribute" "AUTH_SERVER_SIGNATURE" "Lse/bryggan/saml/EidAttribute;" (.ref w27)) (S28 : Sta Z Z.heap "se/bryggan/saml/EidAttribute" "SAD" "Lse/bryggan/saml/EidAttribute;" (.ref w28)) (S29 : Sta Z Z.heap "se/bryggan/saml/EidAttribute" "SIGN_MESSAGE_DIGEST" "Lse/bryggan/saml/EidAttribute;" (.ref w29)) (S30 : Sta Z Z.heap "se/bryggan/saml/EidAttribute" "PRID" "Lse/bryggan/saml/EidAttribute;" (.ref w30)) (S31 : Sta Z Z.heap "se/bryggan/saml/EidAttribute" "PRID_PERSISTENCE" "Lse/bryggan/saml/EidAttribute;" (.ref w31)) (S32 : Sta Z Z.heap "se/bryggan/saml/EidAttribute" "PERSONAL_IDENTITY_NUMBER_BINDING" "Lse/bryggan/saml/EidAttribute;" (.ref w32)) (S33 : Sta Z Z.heap "se/bryggan/saml/EidAttribute" "MAPPED_PERSONAL_IDENTITY_NUMBER" "Lse/bryggan/saml/EidAttribute;" (.ref w33)) (S34 : Sta Z Z.heap "se/bryggan/saml/EidAttribute" "EIDAS_PERSON_IDENTIFIER" "Lse/bryggan/saml/EidAttribute;" (.ref w34)) (S35 : Sta Z Z.heap "se/bryggan/saml/EidAttribute" "EIDAS_NATURAL_PERSON_ADDRESS" "Lse/bryggan/saml/EidAttribute;" (.ref w35)) (S36 : Sta Z Z.heap "se/bryggan/saml/EidAttribute" "EMPLOYEE_HSA_ID" "Lse/bryggan/saml/EidAttribute;" (.ref w36)) (E0 : Exa Z Z.heap w0 "se/bryggan/saml/EidAttribute") (E1 : Exa Z Z.heap w1 "se/bryggan/saml/EidAttribute") (E2 : Exa Z Z.heap w2 "se/bryggan/saml/EidAttribute") (E3 : Exa Z Z.heap w3 "se/bryggan/saml/EidAttribute") (E4 : Exa Z Z.heap w4 "se/bryggan/saml/EidAttribute") (E5 : Exa Z Z.heap w5 "se/bryggan/saml/EidAttribute") (E6 : Exa Z Z.heap w6 "se/bryggan/saml/EidAttribute") (E7 : Exa Z Z.heap w7 "se/bryggan/saml/EidAttribute") (E8 : Exa Z Z.heap w8 "se/bryggan/saml/EidAttribute") (E9 : Exa Z Z.heap w9 "se/bryggan/saml/EidAttribute") (E10 : Exa Z Z.heap w10 "se/bryggan/saml/EidAttribute") (E11 : Exa Z Z.heap w11 "se/bryggan/saml/EidAttribute") (E12 : Exa Z Z.heap w12 "se/bryggan/saml/EidAttribute") (E13 : Exa Z Z.heap w13 "se/bryggan/saml/EidAttribute") (E14 : Exa Z Z.heap w14 "se/bryggan/saml/EidAttribute") (E15 : Exa Z Z.heap w15 "se/bryggan/saml/EidAttribute") (E16 : Exa Z Z.heap w16 "se/bryggan/saml/EidAttribute") (E17 : Exa Z Z.heap w17 "se/bryggan/saml/EidAttribute") (E18 : Exa Z Z.heap w18 "se/bryggan/saml/EidAttribute") (E19 : Exa Z Z.heap w19 "se/bryggan/saml/EidAttribute") (E20 : Exa Z Z.heap w20 "se/bryggan/saml/EidAttribute") (E21 : Exa Z Z.heap w21 "se/bryggan/saml/EidAttribute") (E22 : Exa Z Z.heap w22 "se/bryggan/saml/EidAttribute") (E23 : Exa Z Z.heap w23 "se/bryggan/saml/EidAttribute") (E24 : Exa Z Z.heap w24 "se/bryggan/saml/EidAttribute") (E25 : Exa Z Z.heap w25 "se/bryggan/saml/EidAttribute") (E26 : Exa Z Z.heap w26 "se/bryggan/saml/EidAttribute") (E27 : Exa Z Z.heap w27 "se/bryggan/saml/EidAttribute") (E28 : Exa Z Z.heap w28 "se/bryggan/saml/EidAttribute") (E29 : Exa Z Z.heap w29 "se/bryggan/saml/EidAttribute") (E30 : Exa Z Z.heap w30 "se/bryggan/saml/EidAttribute") (E31 : Exa Z Z.heap w31 "se/bryggan/saml/EidAttribute") (E32 : Exa Z Z.heap w32 "se/bryggan/saml/EidAttribute") (E33 : Exa Z Z.heap w33 "se/bryggan/saml/EidAttribute") (E34 : Exa Z Z.heap w34 "se/bryggan/saml/EidAttribute") (E35 : Exa Z Z.heap w35 "se/bryggan/saml/EidAttribute") (E36 : Exa Z Z.heap w36 "se/bryggan/saml/EidAttribute") (n0 : w0 ≠ w22) (n1 : w1 ≠ w22) (n2 : w2 ≠ w22) (n3 : w3 ≠ w22) (n4 : w4 ≠ w22) (n5 : w5 ≠ w22) (n6 : w6 ≠ w22) (n7 : w7 ≠ w22) (n8 : w8 ≠ w22) (n9 : w9 ≠ w22) (n10 : w10 ≠ w22) (n11 : w11 ≠ w22) (n12 : w12 ≠ w22) (n13 : w13 ≠ w22) (n14 : w14 ≠ w22) (n15 : w15 ≠ w22) (n16 : w16 ≠ w22) (n17 : w17 ≠ w22) (n18 : w18 ≠ w22) (n19 : w19 ≠ w22) (n20 : w20 ≠ w22) (n21 : w21 ≠ w22) (n23 : w23 ≠ w22) (n24 : w24 ≠ w22) (n25 : w25 ≠ w22) (n26 : w26 ≠ w22) (n27 : w27 ≠ w22) (n28 : w28 ≠ w22) (n29 : w29 ≠ w22) (n30 : w30 ≠ w22) (n31 : w31 ≠ w22) (n32 : w32 ≠ w22) (n33 : w33 ≠ w22) (n34 : w34 ≠ w22) (n35 : w35 ≠ w22) (n36 : w36 ≠ w22) :
    Met1 l Z x code maxLocals ret room_1 #[(.int p1)] h0 (Q_law Z p1 w0 w1 w2 w3 w4 w5 w6 w7 w8 w9 w10 w11 w12 w13 w14 w15 w16 w17 w18 w19 w20 w21 w22 w23 w24 w25 w26 w27 w28 w29 w30 w31 w32 w33 w34 w35 w36 h0) := by
  refine Met1.of_body (Ls := #[.val (.int p1), .unset, .unset, .unset]) pf_0 (fun m => by first | (simp [entryFrame, mkF, argsToLocals, Value.category, maxLocals]; done) | rfl) ?_
  intro p e s m below meth c T0 C X0 e0
  have N0 : Fr Z.heap.size [] := Fr.nil _
  refine Go.iloadN (pc' := 1) C X0 at_0 rfl rfl ?_
  refine Go.ldcI (pc' := 3) C X0 at_1 (hw _ (List.mem_of_getElem? (i := 0) rfl)) rfl ?_
  refine Go.iand (pc' := 4) C X0 at_3 rfl ?_
  refine Go.bipush (z := (37 : Int32)) (pc' := 6) C X0 at_4 rfl rfl ?_
  refine Go.irem (pc' := 7) C X0 at_6 (by decide) rfl ?_
  refine Go.istoreN (Ls' := #[.val (.int p1), .val (.int ((p1 &&& (2147483647 : Int32)) % (37 : Int32))), .unset, .unset]) (pc' := 8) C X0 at_7 rfl rfl ?_
  rcases own_c37 _ (own_b37 p1).1 (own_b37 p1).2 with q0 | q0 | q0 | q0 | q0 | q0 | q0 | q0 | q0 | q0 | q0 | q0 | q0 | q0 | q0 | q0 | q0 | q0 | q0 | q0 | q0 | q0 | q0 | q0 | q0 | q0 | q0 | q0 | q0 | q0 | q0 | q0 | q0 | q0 | q0 | q0 | q0
  · rw [q0]
    refine Go.iloadN (pc' := 9) C X0 at_8 rfl rfl ?_
    refine Go.callS (y := (⟨"se/bryggan/saml/EidAttributeIsScopedPinLaw", "pick", "(I)Lse/bryggan/saml/EidAttribute;"⟩ : MethodName)) (pc' := 12) C X0 (hw _ (List.mem_of_getElem? (i := 1) rfl)) (hw _ (List.mem_of_getElem? (i := 2) rfl)) (by decide) (rm_p0 l Z a0 hw w0 h0 O0 S0) (hw _ (List.mem_of_getElem? (i := 4) rfl)) (hw _ (List.mem_of_getElem? (i := 3) rfl)) e0 (argsL := [(.int (0 : Int32))]) (rest := []) (W := 0) rfl rfl pd_0 rfl (by decide) rfl (by decide) (by decide) (by decide) (by decide) at_9 rfl ?_
    intro T1 v1 L1 X1 q1
    obtain ⟨rfl, rfl, e1⟩ := q1
    have N1 := Fr.app N0 (Fr.nil _)
    refine Go.astoreN (Ls' := #[.val (.int p1), .val (.int (0 : Int32)), .val (.ref w0), .unset]) (pc' := 13) C X1 at_12 rfl rfl rfl ?_
    refine Go.iloadN (pc' := 14) C X1 at_13 rfl rfl ?_
    refine Go.bipush (z := (22 : Int32)) (pc' := 16) C X1 at_14 rfl rfl ?_
    refine Go.icmpYes (pc' := 23) C X1 at_16 (feq (x := (0 : Int32)) (y := (22 : Int32)) (by decide)).2 (by decide) (by decide) ?_
    refine Go.iconst (z := (0 : Int32)) (pc' := 24) C X1 at_23 rfl rfl ?_
    refine Go.istoreN (Ls' := #[.val (.int p1), .val (.int (0 : Int32)), .val (.ref w0), .val (.int (0 : Int32))]) (pc' := 25) C X1 at_24 rfl rfl ?_
    refine Go.aloadN (pc' := 26) C X1 at_25 rfl rfl rfl ?_
    refine Go.callV (y := (⟨"se/bryggan/saml/EidAttribute", "isScoped", "()Z"⟩ : MethodName)) (z := (⟨"se/bryggan/saml/EidAttribute", "isScoped", "()Z"⟩ : MethodName)) (a := w0) (pc' := 29) C X1 (hw _ (List.mem_of_getElem? (i := 8) rfl)) (hw _ (List.mem_of_getElem? (i := 9) rfl)) (notFace_at C.2.1 (hw _ (List.mem_of_getElem? (i := 11) rfl))) (hw _ (List.mem_of_getElem? (i := 11) rfl)) (hw _ (List.mem_of_getElem? (i := 10) rfl)) (Exa.ext O0 E0) (by decide) (rm_isF l Z a0 hw w0 w22 h0 O0 S22 n0) (hw _ (List.mem_of_getElem? (i := 12) rfl)) (hw _ (List.mem_of_getElem? (i := 6) rfl)) e1 (argsL := []) (rest := []) (W := 0) rfl rfl pd_1 rfl (by decide) rfl (by decide) (by decide) (by decide) (by decide) at_26 rfl ?_
    intro T3 v3 L3 X3 q3
    obtain ⟨rfl, rfl, e3⟩ := q3
    have N3 := Fr.app N1 (Fr.nil _)
    refine Go.iloadN (pc' := 30) C X3 at_29 rfl rfl ?_
    refine Go.icmpNo (pc' := 33) C X3 at_30 (teq (x := (0 : Int32)) (y := (0 : Int32)) (by decide)).2 rfl ?_
    refine Go.iconst (z := (1 : Int32)) (pc' := 34) C X3 at_33 rfl rfl ?_
    refine Go.goto (pc' := 38) C X3 at_34 (by decide) (by decide) ?_
    exact Go.retN C X3 rfl at_38 (by simp) (by rw [e3]; exact ⟨rfl, N3, (Keep.refl h0 [])⟩) (by decide) (by decide)
  · rw [q0]
    refine Go.iloadN (pc' := 9) C X0 at_8 rfl rfl ?_
    refine Go.callS (y := (⟨"se/bryggan/saml/EidAttributeIsScopedPinLaw", "pick", "(I)Lse/bryggan/saml/EidAttribute;"⟩ : MethodName)) (pc' := 12) C X0 (hw _ (List.mem_of_getElem? (i := 1) rfl)) (hw _ (List.mem_of_getElem? (i := 2) rfl)) (by decide) (rm_p1 l Z a0 hw w1 h0 O0 S1) (hw _ (List.mem_of_getElem? (i := 4) rfl)) (hw _ (List.mem_of_getElem? (i := 3) rfl)) e0 (argsL := [(.int (1 : Int32))]) (rest := []) (W := 0) rfl rfl pd_0 rfl (by decide) rfl (by decide) (by decide) (by decide) (by decide) at_9 rfl ?_
    intro T5 v5 L5 X5 q5
    obtain ⟨rfl, rfl, e5⟩ := q5
    have N5 := Fr.app N0 (Fr.nil _)
    refine Go.astoreN (Ls' := #[.val (.int p1), .val (.int (1 : Int32)), .val (.ref w1), .unset]) (pc' := 13) C X5 at_12 rfl rfl rfl ?_
    refine Go.iloadN (pc' := 14) C X5 at_13 rfl rfl ?_
    refine Go.bipush (z := (22 : Int32)) (pc' := 16) C X5 at_14 rfl rfl ?_
    refine Go.icmpYes (pc' := 23) C X5 at_16 (feq (x := (1 : Int32)) (y := (22 : Int32)) (by decide)).2 (by decide) (by decide) ?_
    refine Go.iconst (z := (0 : Int32)) (pc' := 24) C X5 at_23 rfl rfl ?_
    refine Go.istoreN (Ls' := #[.val (.int p1), .val (.int (1 : Int32)), .val (.ref w1), .val (.int (0 : Int32))]) (pc' := 25) C X5 at_24 rfl rfl ?_
    refine Go.aloadN (pc' := 26) C X5 at_25 rfl rfl rfl ?_
    refine Go.callV (y := (⟨"se/bryggan/saml/EidAttribute", "isScoped", "()Z"⟩ : MethodName)) (z := (⟨"se/bryggan/saml/EidAttribute", "isScoped", "()Z"⟩ : MethodName)) (a := w1) (pc' := 29) C X5 (hw _ (List.mem_of_getElem? (i := 8) rfl)) (hw _ (List.mem_of_getElem? (i := 9) rfl)) (notFace_at C.2.1 (hw _ (List.mem_of_getElem? (i := 11) rfl))) (hw _ (List.mem_of_getElem? (i := 11) rfl)) (hw _ (List.mem_of_getElem? (i := 10) rfl)) (Exa.ext O0 E1) (by decide) (rm_isF l Z a0 hw w1 w22 h0 O0 S22 n1) (hw _ (List.mem_of_getElem? (i := 12) rfl)) (hw _ (List.mem_of_getElem? (i := 6) rfl)) e5 (argsL := []) (rest := []) (W := 0) rfl rfl pd_1 rfl (by decide) rfl (by decide) (by decide) (by decide) (by decide) at_26 rfl ?_
    intro T7 v7 L7 X7 q7
    obtain ⟨rfl, rfl, e7⟩ := q7
    have N7 := Fr.app N5 (Fr.nil _)
    refine Go.iloadN (pc' := 30) C X7 at_29 rfl rfl ?_
    refine Go.icmpNo (pc' := 33) C X7 at_30 (teq (x := (0 : Int32)) (y := (0 : Int32)) (by decide)).2 rfl ?_
    refine Go.iconst (z := (1 : Int32)) (pc' := 34) C X7 at_33 rfl rfl ?_
    refine Go.goto (pc' := 38) C X7 at_34 (by decide) (by decide) ?_
    exact Go.retN C X7 rfl at_38 (by simp) (by rw [e7]; exact ⟨rfl, N7, (Keep.refl h0 [])⟩) (by decide) (by decide)
  · rw [q0]
    refine Go.iloadN (pc' := 9) C X0 at_8 rfl rfl ?_
    refine Go.callS (y := (⟨"se/bryggan/saml/EidAttributeIsScopedPinLaw", "pick", "(I)Lse/bryggan/saml/EidAttribute;"⟩ : MethodName)) (pc' := 12) C X0 (hw _ (List.mem_of_getElem? (i := 1) rfl)) (hw _ (List.mem_of_getElem? (i := 2) rfl)) (by decide) (rm_p2 l Z a0 hw w2 h0 O0 S2) (hw _ (List.mem_of_getElem? (i := 4) rfl)) (hw _ (List.mem_of_getElem? (i := 3) rfl)) e0 (argsL := [(.int (2 : Int32))]) (rest := []) (W := 0) rfl rfl pd_0 rfl (by decide) rfl (by decide) (by decide) (by decide) (by decide) at_9 rfl ?_
    intro T9 v9 L9 X9 q9
    obtain ⟨rfl, rfl, e9⟩ := q9
    have N9 := Fr.app N0 (Fr.nil _)
    refine Go.astoreN (Ls' := #[.val (.int p1), .val (.int (2 : Int32)), .val (.ref w2), .unset]) (pc' := 13) C X9 at_12 rfl rfl rfl ?_
    refine Go.iloadN (pc' := 14) C X9 at_13 rfl rfl ?_
    refine Go.bipush (z := (22 : Int32)) (pc' := 16) C X9 at_14 rfl rfl ?_
    refine Go.icmpYes (pc' := 23) C X9 at_16 (feq (x := (2 : Int32)) (y := (22 : Int32)) (by decide)).2 (by decide) (by decide) ?_
    refine Go.iconst (z := (0 : Int32)) (pc' := 24) C X9 at_23 rfl rfl ?_
    refine Go.istoreN (Ls' := #[.val (.int p1), .val (.int (2 : Int32)), .val (.ref w2), .val (.int (0 : Int32))]) (pc' := 25) C X9 at_24 rfl rfl ?_
    refine Go.aloadN (pc' := 26) C X9 at_25 rfl rfl rfl ?_
    refine Go.callV (y := (⟨"se/bryggan/saml/EidAttribute", "isScoped", "()Z"⟩ : MethodName)) (z := (⟨"se/bryggan/saml/EidAttribute", "isScoped", "()Z"⟩ : MethodName)) (a := w2) (pc' := 29) C X9 (hw _ (List.mem_of_getElem? (i := 8) rfl)) (hw _ (List.mem_of_getElem? (i := 9) rfl)) (notFace_at C.2.1 (hw _ (List.mem_of_getElem? (i := 11) rfl))) (hw _ (List.mem_of_getElem? (i := 11) rfl)) (hw _ (List.mem_of_getElem? (i := 10) rfl)) (Exa.ext O0 E2) (by decide) (rm_isF l Z a0 hw w2 w22 h0 O0 S22 n2) (hw _ (List.mem_of_getElem? (i := 12) rfl)) (hw _ (List.mem_of_getElem? (i := 6) rfl)) e9 (argsL := []) (rest := []) (W := 0) rfl rfl pd_1 rfl (by decide) rfl (by decide) (by decide) (by decide) (by decide) at_26 rfl ?_
    intro T11 v11 L11 X11 q11
    obtain ⟨rfl, rfl, e11⟩ := q11
    have N11 := Fr.app N9 (Fr.nil _)
    refine Go.iloadN (pc' := 30) C X11 at_29 rfl rfl ?_
    refine Go.icmpNo (pc' := 33) C X11 at_30 (teq (x := (0 : Int32)) (y := (0 : Int32)) (by decide)).2 rfl ?_
    refine Go.iconst (z := (1 : Int32)) (pc' := 34) C X11 at_33 rfl rfl ?_
    refine Go.goto (pc' := 38) C X11 at_34 (by decide) (by decide) ?_
    exact Go.retN C X11 rfl at_38 (by simp) (by rw [e11]; exact ⟨rfl, N11, (Keep.refl h0 [])⟩) (by decide) (by decide)
  · rw [q0]
    refine Go.iloadN (pc' := 9) C X0 at_8 rfl rfl ?_
    refine Go.callS (y := (⟨"se/bryggan/saml/EidAttributeIsScopedPinLaw", "pick", "(I)Lse/bryggan/saml/EidAttribute;"⟩ : MethodName)) (pc' := 12) C X0 (hw _ (List.mem_of_getElem? (i := 1) rfl)) (hw _ (List.mem_of_getElem? (i := 2) rfl)) (by decide) (rm_p3 l Z a0 hw w3 h0 O0 S3) (hw _ (List.mem_of_getElem? (i := 4) rfl)) (hw _ (List.mem_of_getElem? (i := 3) rfl)) e0 (argsL := [(.int (3 : Int32))]) (rest := []) (W := 0) rfl rfl pd_0 rfl (by decide) rfl (by decide) (by decide) (by decide) (by decide) at_9 rfl ?_
    intro T13 v13 L13 X13 q13
    obtain ⟨rfl, rfl, e13⟩ := q13
    have N13 := Fr.app N0 (Fr.nil _)
    refine Go.astoreN (Ls' := #[.val (.int p1), .val (.int (3 : Int32)), .val (.ref w3), .unset]) (pc' := 13) C X13 at_12 rfl rfl rfl ?_
    refine Go.iloadN (pc' := 14) C X13 at_13 rfl rfl ?_
    refine Go.bipush (z := (22 : Int32)) (pc' := 16) C X13 at_14 rfl rfl ?_
    refine Go.icmpYes (pc' := 23) C X13 at_16 (feq (x := (3 : Int32)) (y := (22 : Int32)) (by decide)).2 (by decide) (by decide) ?_
    refine Go.iconst (z := (0 : Int32)) (pc' := 24) C X13 at_23 rfl rfl ?_
    refine Go.istoreN (Ls' := #[.val (.int p1), .val (.int (3 : Int32)), .val (.ref w3), .val (.int (0 : Int32))]) (pc' := 25) C X13 at_24 rfl rfl ?_
    refine Go.aloadN (pc' := 26) C X13 at_25 rfl rfl rfl ?_
    refine Go.callV (y := (⟨"se/bryggan/saml/EidAttribute", "isScoped", "()Z"⟩ : MethodName)) (z := (⟨"se/bryggan/saml/EidAttribute", "isScoped", "()Z"⟩ : MethodName)) (a := w3) (pc' := 29) C X13 (hw _ (List.mem_of_getElem? (i := 8) rfl)) (hw _ (List.mem_of_getElem? (i := 9) rfl)) (notFace_at C.2.1 (hw _ (List.mem_of_getElem? (i := 11) rfl))) (hw _ (List.mem_of_getElem? (i := 11) rfl)) (hw _ (List.mem_of_getElem? (i := 10) rfl)) (Exa.ext O0 E3) (by decide) (rm_isF l Z a0 hw w3 w22 h0 O0 S22 n3) (hw _ (List.mem_of_getElem? (i := 12) rfl)) (hw _ (List.mem_of_getElem? (i := 6) rfl)) e13 (argsL := []) (rest := []) (W := 0) rfl rfl pd_1 rfl (by decide) rfl (by decide) (by decide) (by decide) (by decide) at_26 rfl ?_
    intro T15 v15 L15 X15 q15
    obtain ⟨rfl, rfl, e15⟩ := q15
    have N15 := Fr.app N13 (Fr.nil _)
    refine Go.iloadN (pc' := 30) C X15 at_29 rfl rfl ?_
    refine Go.icmpNo (pc' := 33) C X15 at_30 (teq (x := (0 : Int32)) (y := (0 : Int32)) (by decide)).2 rfl ?_
    refine Go.iconst (z := (1 : Int32)) (pc' := 34) C X15 at_33 rfl rfl ?_
    refine Go.goto (pc' := 38) C X15 at_34 (by decide) (by decide) ?_
    exact Go.retN C X15 rfl at_38 (by simp) (by rw [e15]; exact ⟨rfl, N15, (Keep.refl h0 [])⟩) (by decide) (by decide)
  · rw [q0]
    refine Go.iloadN (pc' := 9) C X0 at_8 rfl rfl ?_
    refine Go.callS (y := (⟨"se/bryggan/saml/EidAttributeIsScopedPinLaw", "pick", "(I)Lse/bryggan/saml/EidAttribute;"⟩ : MethodName)) (pc' := 12) C X0 (hw _ (List.mem_of_getElem? (i := 1) rfl)) (hw _ (List.mem_of_getElem? (i := 2) rfl)) (by decide) (rm_p4 l Z a0 hw w4 h0 O0 S4) (hw _ (List.mem_of_getElem? (i := 4) rfl)) (hw _ (List.mem_of_getElem? (i := 3) rfl)) e0 (argsL := [(.int (4 : Int32))]) (rest := []) (W := 0) rfl rfl pd_0 rfl (by decide) rfl (by decide) (by decide) (by decide) (by decide) at_9 rfl ?_
    intro T17 v17 L17 X17 q17
    obtain ⟨rfl, rfl, e17⟩ := q17
    have N17 := Fr.app N0 (Fr.nil _)
    refine Go.astoreN (Ls' := #[.val (.int p1), .val (.int (4 : Int32)), .val (.ref w4), .unset]) (pc' := 13) C X17 at_12 rfl rfl rfl ?_
    refine Go.iloadN (pc' := 14) C X17 at_13 rfl rfl ?_
    refine Go.bipush (z := (22 : Int32)) (pc' := 16) C X17 at_14 rfl rfl ?_
    refine Go.icmpYes (pc' := 23) C X17 at_16 (feq (x := (4 : Int32)) (y := (22 : Int32)) (by decide)).2 (by decide) (by decide) ?_
    refine Go.iconst (z := (0 : Int32)) (pc' := 24) C X17 at_23 rfl rfl ?_
    refine Go.istoreN (Ls' := #[.val (.int p1), .val (.int (4 : Int32)), .val (.ref w4), .val (.int (0 : Int32))]) (pc' := 25) C X17 at_24 rfl rfl ?_
    refine Go.aloadN (pc' := 26) C X17 at_25 rfl rfl rfl ?_
    refine Go.callV (y := (⟨"se/bryggan/saml/EidAttribute", "isScoped", "()Z"⟩ : MethodName)) (z := (⟨"se/bryggan/saml/EidAttribute", "isScoped", "()Z"⟩ : MethodName)) (a := w4) (pc' := 29) C X17 (hw _ (List.mem_of_getElem? (i := 8) rfl)) (hw _ (List.mem_of_getElem? (i := 9) rfl)) (notFace_at C.2.1 (hw _ (List.mem_of_getElem? (i := 11) rfl))) (hw _ (List.mem_of_getElem? (i := 11) rfl)) (hw _ (List.mem_of_getElem? (i := 10) rfl)) (Exa.ext O0 E4) (by decide) (rm_isF l Z a0 hw w4 w22 h0 O0 S22 n4) (hw _ (List.mem_of_getElem? (i := 12) rfl)) (hw _ (List.mem_of_getElem? (i := 6) rfl)) e17 (argsL := []) (rest := []) (W := 0) rfl rfl pd_1 rfl (by decide) rfl (by decide) (by decide) (by decide) (by decide) at_26 rfl ?_
    intro T19 v19 L19 X19 q19
    obtain ⟨rfl, rfl, e19⟩ := q19
    have N19 := Fr.app N17 (Fr.nil _)
    refine Go.iloadN (pc' := 30) C X19 at_29 rfl rfl ?_
    refine Go.icmpNo (pc' := 33) C X19 at_30 (teq (x := (0 : Int32)) (y := (0 : Int32)) (by decide)).2 rfl ?_
    refine Go.iconst (z := (1 : Int32)) (pc' := 34) C X19 at_33 rfl rfl ?_
    refine Go.goto (pc' := 38) C X19 at_34 (by decide) (by decide) ?_
    exact Go.retN C X19 rfl at_38 (by simp) (by rw [e19]; exact ⟨rfl, N19, (Keep.refl h0 [])⟩) (by decide) (by decide)
  · rw [q0]
    refine Go.iloadN (pc' := 9) C X0 at_8 rfl rfl ?_
    refine Go.callS (y := (⟨"se/bryggan/saml/EidAttributeIsScopedPinLaw", "pick", "(I)Lse/bryggan/saml/EidAttribute;"⟩ : MethodName)) (pc' := 12) C X0 (hw _ (List.mem_of_getElem? (i := 1) rfl)) (hw _ (List.mem_of_getElem? (i := 2) rfl)) (by decide) (rm_p5 l Z a0 hw w5 h0 O0 S5) (hw _ (List.mem_of_getElem? (i := 4) rfl)) (hw _ (List.mem_of_getElem? (i := 3) rfl)) e0 (argsL := [(.int (5 : Int32))]) (rest := []) (W := 0) rfl rfl pd_0 rfl (by decide) rfl (by decide) (by decide) (by decide) (by decide) at_9 rfl ?_
    intro T21 v21 L21 X21 q21
    obtain ⟨rfl, rfl, e21⟩ := q21
    have N21 := Fr.app N0 (Fr.nil _)
    refine Go.astoreN (Ls' := #[.val (.int p1), .val (.int (5 : Int32)), .val (.ref w5), .unset]) (pc' := 13) C X21 at_12 rfl rfl rfl ?_
    refine Go.iloadN (pc' := 14) C X21 at_13 rfl rfl ?_
    refine Go.bipush (z := (22 : Int32)) (pc' := 16) C X21 at_14 rfl rfl ?_
    refine Go.icmpYes (pc' := 23) C X21 at_16 (feq (x := (5 : Int32)) (y := (22 : Int32)) (by decide)).2 (by decide) (by decide) ?_
    refine Go.iconst (z := (0 : Int32)) (pc' := 24) C X21 at_23 rfl rfl ?_
    refine Go.istoreN (Ls' := #[.val (.int p1), .val (.int (5 : Int32)), .val (.ref w5), .val (.int (0 : Int32))]) (pc' := 25) C X21 at_24 rfl rfl ?_
    refine Go.aloadN (pc' := 26) C X21 at_25 rfl rfl rfl ?_
    refine Go.callV (y := (⟨"se/bryggan/saml/EidAttribute", "isScoped", "()Z"⟩ : MethodName)) (z := (⟨"se/bryggan/saml/EidAttribute", "isScoped", "()Z"⟩ : MethodName)) (a := w5) (pc' := 29) C X21 (hw _ (List.mem_of_getElem? (i := 8) rfl)) (hw _ (List.mem_of_getElem? (i := 9) rfl)) (notFace_at C.2.1 (hw _ (List.mem_of_getElem? (i := 11) rfl))) (hw _ (List.mem_of_getElem? (i := 11) rfl)) (hw _ (List.mem_of_getElem? (i := 10) rfl)) (Exa.ext O0 E5) (by decide) (rm_isF l Z a0 hw w5 w22 h0 O0 S22 n5) (hw _ (List.mem_of_getElem? (i := 12) rfl)) (hw _ (List.mem_of_getElem? (i := 6) rfl)) e21 (argsL := []) (rest := []) (W := 0) rfl rfl pd_1 rfl (by decide) rfl (by decide) (by decide) (by decide) (by decide) at_26 rfl ?_
    intro T23 v23 L23 X23 q23
    obtain ⟨rfl, rfl, e23⟩ := q23
    have N23 := Fr.app N21 (Fr.nil _)
    refine Go.iloadN (pc' := 30) C X23 at_29 rfl rfl ?_
    refine Go.icmpNo (pc' := 33) C X23 at_30 (teq (x := (0 : Int32)) (y := (0 : Int32)) (by decide)).2 rfl ?_
    refine Go.iconst (z := (1 : Int32)) (pc' := 34) C X23 at_33 rfl rfl ?_
    refine Go.goto (pc' := 38) C X23 at_34 (by decide) (by decide) ?_
    exact Go.retN C X23 rfl at_38 (by simp) (by rw [e23]; exact ⟨rfl, N23, (Keep.refl h0 [])⟩) (by decide) (by decide)
  · rw [q0]
    refine Go.iloadN (pc' := 9) C X0 at_8 rfl rfl ?_
    refine Go.callS (y := (⟨"se/bryggan/saml/EidAttributeIsScopedPinLaw", "pick", "(I)Lse/bryggan/saml/EidAttribute;"⟩ : MethodName)) (pc' := 12) C X0 (hw _ (List.mem_of_getElem? (i := 1) rfl)) (hw _ (List.mem_of_getElem? (i := 2) rfl)) (by decide) (rm_p6 l Z a0 hw w6 h0 O0 S6) (hw _ (List.mem_of_getElem? (i := 4) rfl)) (hw _ (List.mem_of_getElem? (i := 3) rfl)) e0 (argsL := [(.int (6 : Int32))]) (rest := []) (W := 0) rfl rfl pd_0 rfl (by decide) rfl (by decide) (by decide) (by decide) (by decide) at_9 rfl ?_
    intro T25 v25 L25 X25 q25
    obtain ⟨rfl, rfl, e25⟩ := q25
    have N25 := Fr.app N0 (Fr.nil _)
    refine Go.astoreN (Ls' := #[.val (.int p1), .val (.int (6 : Int32)), .val (.ref w6), .unset]) (pc' := 13) C X25 at_12 rfl rfl rfl ?_
    refine Go.iloadN (pc' := 14) C X25 at_13 rfl rfl ?_
    refine Go.bipush (z := (22 : Int32)) (pc' := 16) C X25 at_14 rfl rfl ?_
    refine Go.icmpYes (pc' := 23) C X25 at_16 (feq (x := (6 : Int32)) (y := (22 : Int32)) (by decide)).2 (by decide) (by decide) ?_
    refine Go.iconst (z := (0 : Int32)) (pc' := 24) C X25 at_23 rfl rfl ?_
    refine Go.istoreN (Ls' := #[.val (.int p1), .val (.int (6 : Int32)), .val (.ref w6), .val (.int (0 : Int32))]) (pc' := 25) C X25 at_24 rfl rfl ?_
    refine Go.aloadN (pc' := 26) C X25 at_25 rfl rfl rfl ?_
    refine Go.callV (y := (⟨"se/bryggan/saml/EidAttribute", "isScoped", "()Z"⟩ : MethodName)) (z := (⟨"se/bryggan/saml/EidAttribute", "isScoped", "()Z"⟩ : MethodName)) (a := w6) (pc' := 29) C X25 (hw _ (List.mem_of_getElem? (i := 8) rfl)) (hw _ (List.mem_of_getElem? (i := 9) rfl)) (notFace_at C.2.1 (hw _ (List.mem_of_getElem? (i := 11) rfl))) (hw _ (List.mem_of_getElem? (i := 11) rfl)) (hw _ (List.mem_of_getElem? (i := 10) rfl)) (Exa.ext O0 E6) (by decide) (rm_isF l Z a0 hw w6 w22 h0 O0 S22 n6) (hw _ (List.mem_of_getElem? (i := 12) rfl)) (hw _ (List.mem_of_getElem? (i := 6) rfl)) e25 (argsL := []) (rest := []) (W := 0) rfl rfl pd_1 rfl (by decide) rfl (by decide) (by decide) (by decide) (by decide) at_26 rfl ?_
    intro T27 v27 L27 X27 q27
    obtain ⟨rfl, rfl, e27⟩ := q27
    have N27 := Fr.app N25 (Fr.nil _)
    refine Go.iloadN (pc' := 30) C X27 at_29 rfl rfl ?_
    refine Go.icmpNo (pc' := 33) C X27 at_30 (teq (x := (0 : Int32)) (y := (0 : Int32)) (by decide)).2 rfl ?_
    refine Go.iconst (z := (1 : Int32)) (pc' := 34) C X27 at_33 rfl rfl ?_
    refine Go.goto (pc' := 38) C X27 at_34 (by decide) (by decide) ?_
    exact Go.retN C X27 rfl at_38 (by simp) (by rw [e27]; exact ⟨rfl, N27, (Keep.refl h0 [])⟩) (by decide) (by decide)
  · rw [q0]
    refine Go.iloadN (pc' := 9) C X0 at_8 rfl rfl ?_
    refine Go.callS (y := (⟨"se/bryggan/saml/EidAttributeIsScopedPinLaw", "pick", "(I)Lse/bryggan/saml/EidAttribute;"⟩ : MethodName)) (pc' := 12) C X0 (hw _ (List.mem_of_getElem? (i := 1) rfl)) (hw _ (List.mem_of_getElem? (i := 2) rfl)) (by decide) (rm_p7 l Z a0 hw w7 h0 O0 S7) (hw _ (List.mem_of_getElem? (i := 4) rfl)) (hw _ (List.mem_of_getElem? (i := 3) rfl)) e0 (argsL := [(.int (7 : Int32))]) (rest := []) (W := 0) rfl rfl pd_0 rfl (by decide) rfl (by decide) (by decide) (by decide) (by decide) at_9 rfl ?_
    intro T29 v29 L29 X29 q29
    obtain ⟨rfl, rfl, e29⟩ := q29
    have N29 := Fr.app N0 (Fr.nil _)
    refine Go.astoreN (Ls' := #[.val (.int p1), .val (.int (7 : Int32)), .val (.ref w7), .unset]) (pc' := 13) C X29 at_12 rfl rfl rfl ?_
    refine Go.iloadN (pc' := 14) C X29 at_13 rfl rfl ?_
    refine Go.bipush (z := (22 : Int32)) (pc' := 16) C X29 at_14 rfl rfl ?_
    refine Go.icmpYes (pc' := 23) C X29 at_16 (feq (x := (7 : Int32)) (y := (22 : Int32)) (by decide)).2 (by decide) (by decide) ?_
    refine Go.iconst (z := (0 : Int32)) (pc' := 24) C X29 at_23 rfl rfl ?_
    refine Go.istoreN (Ls' := #[.val (.int p1), .val (.int (7 : Int32)), .val (.ref w7), .val (.int (0 : Int32))]) (pc' := 25) C X29 at_24 rfl rfl ?_
    refine Go.aloadN (pc' := 26) C X29 at_25 rfl rfl rfl ?_
    refine Go.callV (y := (⟨"se/bryggan/saml/EidAttribute", "isScoped", "()Z"⟩ : MethodName)) (z := (⟨"se/bryggan/saml/EidAttribute", "isScoped", "()Z"⟩ : MethodName)) (a := w7) (pc' := 29) C X29 (hw _ (List.mem_of_getElem? (i := 8) rfl)) (hw _ (List.mem_of_getElem? (i := 9) rfl)) (notFace_at C.2.1 (hw _ (List.mem_of_getElem? (i := 11) rfl))) (hw _ (List.mem_of_getElem? (i := 11) rfl)) (hw _ (List.mem_of_getElem? (i := 10) rfl)) (Exa.ext O0 E7) (by decide) (rm_isF l Z a0 hw w7 w22 h0 O0 S22 n7) (hw _ (List.mem_of_getElem? (i := 12) rfl)) (hw _ (List.mem_of_getElem? (i := 6) rfl)) e29 (argsL := []) (rest := []) (W := 0) rfl rfl pd_1 rfl (by decide) rfl (by decide) (by decide) (by decide) (by decide) at_26 rfl ?_
    intro T31 v31 L31 X31 q31
    obtain ⟨rfl, rfl, e31⟩ := q31
    have N31 := Fr.app N29 (Fr.nil _)
    refine Go.iloadN (pc' := 30) C X31 at_29 rfl rfl ?_
    refine Go.icmpNo (pc' := 33) C X31 at_30 (teq (x := (0 : Int32)) (y := (0 : Int32)) (by decide)).2 rfl ?_
    refine Go.iconst (z := (1 : Int32)) (pc' := 34) C X31 at_33 rfl rfl ?_
    refine Go.goto (pc' := 38) C X31 at_34 (by decide) (by decide) ?_
    exact Go.retN C X31 rfl at_38 (by simp) (by rw [e31]; exact ⟨rfl, N31, (Keep.refl h0 [])⟩) (by decide) (by decide)
  · rw [q0]
    refine Go.iloadN (pc' := 9) C X0 at_8 rfl rfl ?_
    refine Go.callS (y := (⟨"se/bryggan/saml/EidAttributeIsScopedPinLaw", "pick", "(I)Lse/bryggan/saml/EidAttribute;"⟩ : MethodName)) (pc' := 12) C X0 (hw _ (List.mem_of_getElem? (i := 1) rfl)) (hw _ (List.mem_of_getElem? (i := 2) rfl)) (by decide) (rm_p8 l Z a0 hw w8 h0 O0 S8) (hw _ (List.mem_of_getElem? (i := 4) rfl)) (hw _ (List.mem_of_getElem? (i := 3) rfl)) e0 (argsL := [(.int (8 : Int32))]) (rest := []) (W := 0) rfl rfl pd_0 rfl (by decide) rfl (by decide) (by decide) (by decide) (by decide) at_9 rfl ?_
    intro T33 v33 L33 X33 q33
    obtain ⟨rfl, rfl, e33⟩ := q33
    have N33 := Fr.app N0 (Fr.nil _)
    refine Go.astoreN (Ls' := #[.val (.int p1), .val (.int (8 : Int32)), .val (.ref w8), .unset]) (pc' := 13) C X33 at_12 rfl rfl rfl ?_
    refine Go.iloadN (pc' := 14) C X33 at_13 rfl rfl ?_
    refine Go.bipush (z := (22 : Int32)) (pc' := 16) C X33 at_14 rfl rfl ?_
    refine Go.icmpYes (pc' := 23) C X33 at_16 (feq (x := (8 : Int32)) (y := (22 : Int32)) (by decide)).2 (by decide) (by decide) ?_
    refine Go.iconst (z := (0 : Int32)) (pc' := 24) C X33 at_23 rfl rfl ?_
    refine Go.istoreN (Ls' := #[.val (.int p1), .val (.int (8 : Int32)), .val (.ref w8), .val (.int (0 : Int32))]) (pc' := 25) C X33 at_24 rfl rfl ?_
    refine Go.aloadN (pc' := 26) C X33 at_25 rfl rfl rfl ?_
    refine Go.callV (y := (⟨"se/bryggan/saml/EidAttribute", "isScoped", "()Z"⟩ : MethodName)) (z := (⟨"se/bryggan/saml/EidAttribute", "isScoped", "()Z"⟩ : MethodName)) (a := w8) (pc' := 29) C X33 (hw _ (List.mem_of_getElem? (i := 8) rfl)) (hw _ (List.mem_of_getElem? (i := 9) rfl)) (notFace_at C.2.1 (hw _ (List.mem_of_getElem? (i := 11) rfl))) (hw _ (List.mem_of_getElem? (i := 11) rfl)) (hw _ (List.mem_of_getElem? (i := 10) rfl)) (Exa.ext O0 E8) (by decide) (rm_isF l Z a0 hw w8 w22 h0 O0 S22 n8) (hw _ (List.mem_of_getElem? (i := 12) rfl)) (hw _ (List.mem_of_getElem? (i := 6) rfl)) e33 (argsL := []) (rest := []) (W := 0) rfl rfl pd_1 rfl (by decide) rfl (by decide) (by decide) (by decide) (by decide) at_26 rfl ?_
    intro T35 v35 L35 X35 q35
    obtain ⟨rfl, rfl, e35⟩ := q35
    have N35 := Fr.app N33 (Fr.nil _)
    refine Go.iloadN (pc' := 30) C X35 at_29 rfl rfl ?_
    refine Go.icmpNo (pc' := 33) C X35 at_30 (teq (x := (0 : Int32)) (y := (0 : Int32)) (by decide)).2 rfl ?_
    refine Go.iconst (z := (1 : Int32)) (pc' := 34) C X35 at_33 rfl rfl ?_
    refine Go.goto (pc' := 38) C X35 at_34 (by decide) (by decide) ?_
    exact Go.retN C X35 rfl at_38 (by simp) (by rw [e35]; exact ⟨rfl, N35, (Keep.refl h0 [])⟩) (by decide) (by decide)
  · rw [q0]
    refine Go.iloadN (pc' := 9) C X0 at_8 rfl rfl ?_
    refine Go.callS (y := (⟨"se/bryggan/saml/EidAttributeIsScopedPinLaw", "pick", "(I)Lse/bryggan/saml/EidAttribute;"⟩ : MethodName)) (pc' := 12) C X0 (hw _ (List.mem_of_getElem? (i := 1) rfl)) (hw _ (List.mem_of_getElem? (i := 2) rfl)) (by decide) (rm_p9 l Z a0 hw w9 h0 O0 S9) (hw _ (List.mem_of_getElem? (i := 4) rfl)) (hw _ (List.mem_of_getElem? (i := 3) rfl)) e0 (argsL := [(.int (9 : Int32))]) (rest := []) (W := 0) rfl rfl pd_0 rfl (by decide) rfl (by decide) (by decide) (by decide) (by decide) at_9 rfl ?_
    intro T37 v37 L37 X37 q37
    obtain ⟨rfl, rfl, e37⟩ := q37
    have N37 := Fr.app N0 (Fr.nil _)
    refine Go.astoreN (Ls' := #[.val (.int p1), .val (.int (9 : Int32)), .val (.ref w9), .unset]) (pc' := 13) C X37 at_12 rfl rfl rfl ?_
    refine Go.iloadN (pc' := 14) C X37 at_13 rfl rfl ?_
    refine Go.bipush (z := (22 : Int32)) (pc' := 16) C X37 at_14 rfl rfl ?_
    refine Go.icmpYes (pc' := 23) C X37 at_16 (feq (x := (9 : Int32)) (y := (22 : Int32)) (by decide)).2 (by decide) (by decide) ?_
    refine Go.iconst (z := (0 : Int32)) (pc' := 24) C X37 at_23 rfl rfl ?_
    refine Go.istoreN (Ls' := #[.val (.int p1), .val (.int (9 : Int32)), .val (.ref w9), .val (.int (0 : Int32))]) (pc' := 25) C X37 at_24 rfl rfl ?_
    refine Go.aloadN (pc' := 26) C X37 at_25 rfl rfl rfl ?_
    refine Go.callV (y := (⟨"se/bryggan/saml/EidAttribute", "isScoped", "()Z"⟩ : MethodName)) (z := (⟨"se/bryggan/saml/EidAttribute", "isScoped", "()Z"⟩ : MethodName)) (a := w9) (pc' := 29) C X37 (hw _ (List.mem_of_getElem? (i := 8) rfl)) (hw _ (List.mem_of_getElem? (i := 9) rfl)) (notFace_at C.2.1 (hw _ (List.mem_of_getElem? (i := 11) rfl))) (hw _ (List.mem_of_getElem? (i := 11) rfl)) (hw _ (List.mem_of_getElem? (i := 10) rfl)) (Exa.ext O0 E9) (by decide) (rm_isF l Z a0 hw w9 w22 h0 O0 S22 n9) (hw _ (List.mem_of_getElem? (i := 12) rfl)) (hw _ (List.mem_of_getElem? (i := 6) rfl)) e37 (argsL := []) (rest := []) (W := 0) rfl rfl pd_1 rfl (by decide) rfl (by decide) (by decide) (by decide) (by decide) at_26 rfl ?_
    intro T39 v39 L39 X39 q39
    obtain ⟨rfl, rfl, e39⟩ := q39
    have N39 := Fr.app N37 (Fr.nil _)
    refine Go.iloadN (pc' := 30) C X39 at_29 rfl rfl ?_
    refine Go.icmpNo (pc' := 33) C X39 at_30 (teq (x := (0 : Int32)) (y := (0 : Int32)) (by decide)).2 rfl ?_
    refine Go.iconst (z := (1 : Int32)) (pc' := 34) C X39 at_33 rfl rfl ?_
    refine Go.goto (pc' := 38) C X39 at_34 (by decide) (by decide) ?_
    exact Go.retN C X39 rfl at_38 (by simp) (by rw [e39]; exact ⟨rfl, N39, (Keep.refl h0 [])⟩) (by decide) (by decide)
  · rw [q0]
    refine Go.iloadN (pc' := 9) C X0 at_8 rfl rfl ?_
    refine Go.callS (y := (⟨"se/bryggan/saml/EidAttributeIsScopedPinLaw", "pick", "(I)Lse/bryggan/saml/EidAttribute;"⟩ : MethodName)) (pc' := 12) C X0 (hw _ (List.mem_of_getElem? (i := 1) rfl)) (hw _ (List.mem_of_getElem? (i := 2) rfl)) (by decide) (rm_p10 l Z a0 hw w10 h0 O0 S10) (hw _ (List.mem_of_getElem? (i := 4) rfl)) (hw _ (List.mem_of_getElem? (i := 3) rfl)) e0 (argsL := [(.int (10 : Int32))]) (rest := []) (W := 0) rfl rfl pd_0 rfl (by decide) rfl (by decide) (by decide) (by decide) (by decide) at_9 rfl ?_
    intro T41 v41 L41 X41 q41
    obtain ⟨rfl, rfl, e41⟩ := q41
    have N41 := Fr.app N0 (Fr.nil _)
    refine Go.astoreN (Ls' := #[.val (.int p1), .val (.int (10 : Int32)), .val (.ref w10), .unset]) (pc' := 13) C X41 at_12 rfl rfl rfl ?_
    refine Go.iloadN (pc' := 14) C X41 at_13 rfl rfl ?_
    refine Go.bipush (z := (22 : Int32)) (pc' := 16) C X41 at_14 rfl rfl ?_
    refine Go.icmpYes (pc' := 23) C X41 at_16 (feq (x := (10 : Int32)) (y := (22 : Int32)) (by decide)).2 (by decide) (by decide) ?_
    refine Go.iconst (z := (0 : Int32)) (pc' := 24) C X41 at_23 rfl rfl ?_
    refine Go.istoreN (Ls' := #[.val (.int p1), .val (.int (10 : Int32)), .val (.ref w10), .val (.int (0 : Int32))]) (pc' := 25) C X41 at_24 rfl rfl ?_
    refine Go.aloadN (pc' := 26) C X41 at_25 rfl rfl rfl ?_
    refine Go.callV (y := (⟨"se/bryggan/saml/EidAttribute", "isScoped", "()Z"⟩ : MethodName)) (z := (⟨"se/bryggan/saml/EidAttribute", "isScoped", "()Z"⟩ : MethodName)) (a := w10) (pc' := 29) C X41 (hw _ (List.mem_of_getElem? (i := 8) rfl)) (hw _ (List.mem_of_getElem? (i := 9) rfl)) (notFace_at C.2.1 (hw _ (List.mem_of_getElem? (i := 11) rfl))) (hw _ (List.mem_of_getElem? (i := 11) rfl)) (hw _ (List.mem_of_getElem? (i := 10) rfl)) (Exa.ext O0 E10) (by decide) (rm_isF l Z a0 hw w10 w22 h0 O0 S22 n10) (hw _ (List.mem_of_getElem? (i := 12) rfl)) (hw _ (List.mem_of_getElem? (i := 6) rfl)) e41 (argsL := []) (rest := []) (W := 0) rfl rfl pd_1 rfl (by decide) rfl (by decide) (by decide) (by decide) (by decide) at_26 rfl ?_
    intro T43 v43 L43 X43 q43
    obtain ⟨rfl, rfl, e43⟩ := q43
    have N43 := Fr.app N41 (Fr.nil _)
    refine Go.iloadN (pc' := 30) C X43 at_29 rfl rfl ?_
    refine Go.icmpNo (pc' := 33) C X43 at_30 (teq (x := (0 : Int32)) (y := (0 : Int32)) (by decide)).2 rfl ?_
    refine Go.iconst (z := (1 : Int32)) (pc' := 34) C X43 at_33 rfl rfl ?_
    refine Go.goto (pc' := 38) C X43 at_34 (by decide) (by decide) ?_
    exact Go.retN C X43 rfl at_38 (by simp) (by rw [e43]; exact ⟨rfl, N43, (Keep.refl h0 [])⟩) (by decide) (by decide)
  · rw [q0]
    refine Go.iloadN (pc' := 9) C X0 at_8 rfl rfl ?_
    refine Go.callS (y := (⟨"se/bryggan/saml/EidAttributeIsScopedPinLaw", "pick", "(I)Lse/bryggan/saml/EidAttribute;"⟩ : MethodName)) (pc' := 12) C X0 (hw _ (List.mem_of_getElem? (i := 1) rfl)) (hw _ (List.mem_of_getElem? (i := 2) rfl)) (by decide) (rm_p11 l Z a0 hw w11 h0 O0 S11) (hw _ (List.mem_of_getElem? (i := 4) rfl)) (hw _ (List.mem_of_getElem? (i := 3) rfl)) e0 (argsL := [(.int (11 : Int32))]) (rest := []) (W := 0) rfl rfl pd_0 rfl (by decide) rfl (by decide) (by decide) (by decide) (by decide) at_9 rfl ?_
    intro T45 v45 L45 X45 q45
    obtain ⟨rfl, rfl, e45⟩ := q45
    have N45 := Fr.app N0 (Fr.nil _)
    refine Go.astoreN (Ls' := #[.val (.int p1), .val (.int (11 : Int32)), .val (.ref w11), .unset]) (pc' := 13) C X45 at_12 rfl rfl rfl ?_
    refine Go.iloadN (pc' := 14) C X45 at_13 rfl rfl ?_
    refine Go.bipush (z := (22 : Int32)) (pc' := 16) C X45 at_14 rfl rfl ?_
    refine Go.icmpYes (pc' := 23) C X45 at_16 (feq (x := (11 : Int32)) (y := (22 : Int32)) (by decide)).2 (by decide) (by decide) ?_
    refine Go.iconst (z := (0 : Int32)) (pc' := 24) C X45 at_23 rfl rfl ?_
    refine Go.istoreN (Ls' := #[.val (.int p1), .val (.int (11 : Int32)), .val (.ref w11), .val (.int (0 : Int32))]) (pc' := 25) C X45 at_24 rfl rfl ?_
    refine Go.aloadN (pc' := 26) C X45 at_25 rfl rfl rfl ?_
    refine Go.callV (y := (⟨"se/bryggan/saml/EidAttribute", "isScoped", "()Z"⟩ : MethodName)) (z := (⟨"se/bryggan/saml/EidAttribute", "isScoped", "()Z"⟩ : MethodName)) (a := w11) (pc' := 29) C X45 (hw _ (List.mem_of_getElem? (i := 8) rfl)) (hw _ (List.mem_of_getElem? (i := 9) rfl)) (notFace_at C.2.1 (hw _ (List.mem_of_getElem? (i := 11) rfl))) (hw _ (List.mem_of_getElem? (i := 11) rfl)) (hw _ (List.mem_of_getElem? (i := 10) rfl)) (Exa.ext O0 E11) (by decide) (rm_isF l Z a0 hw w11 w22 h0 O0 S22 n11) (hw _ (List.mem_of_getElem? (i := 12) rfl)) (hw _ (List.mem_of_getElem? (i := 6) rfl)) e45 (argsL := []) (rest := []) (W := 0) rfl rfl pd_1 rfl (by decide) rfl (by decide) (by decide) (by decide) (by decide) at_26 rfl ?_
    intro T47 v47 L47 X47 q47
    obtain ⟨rfl, rfl, e47⟩ := q47
    have N47 := Fr.app N45 (Fr.nil _)
    refine Go.iloadN (pc' := 30) C X47 at_29 rfl rfl ?_
    refine Go.icmpNo (pc' := 33) C X47 at_30 (teq (x := (0 : Int32)) (y := (0 : Int32)) (by decide)).2 rfl ?_
    refine Go.iconst (z := (1 : Int32)) (pc' := 34) C X47 at_33 rfl rfl ?_
    refine Go.goto (pc' := 38) C X47 at_34 (by decide) (by decide) ?_
    exact Go.retN C X47 rfl at_38 (by simp) (by rw [e47]; exact ⟨rfl, N47, (Keep.refl h0 [])⟩) (by decide) (by decide)
  · rw [q0]
    refine Go.iloadN (pc' := 9) C X0 at_8 rfl rfl ?_
    refine Go.callS (y := (⟨"se/bryggan/saml/EidAttributeIsScopedPinLaw", "pick", "(I)Lse/bryggan/saml/EidAttribute;"⟩ : MethodName)) (pc' := 12) C X0 (hw _ (List.mem_of_getElem? (i := 1) rfl)) (hw _ (List.mem_of_getElem? (i := 2) rfl)) (by decide) (rm_p12 l Z a0 hw w12 h0 O0 S12) (hw _ (List.mem_of_getElem? (i := 4) rfl)) (hw _ (List.mem_of_getElem? (i := 3) rfl)) e0 (argsL := [(.int (12 : Int32))]) (rest := []) (W := 0) rfl rfl pd_0 rfl (by decide) rfl (by decide) (by decide) (by decide) (by decide) at_9 rfl ?_
    intro T49 v49 L49 X49 q49
    obtain ⟨rfl, rfl, e49⟩ := q49
    have N49 := Fr.app N0 (Fr.nil _)
    refine Go.astoreN (Ls' := #[.val (.int p1), .val (.int (12 : Int32)), .val (.ref w12), .unset]) (pc' := 13) C X49 at_12 rfl rfl rfl ?_
    refine Go.iloadN (pc' := 14) C X49 at_13 rfl rfl ?_
    refine Go.bipush (z := (22 : Int32)) (pc' := 16) C X49 at_14 rfl rfl ?_
    refine Go.icmpYes (pc' := 23) C X49 at_16 (feq (x := (12 : Int32)) (y := (22 : Int32)) (by decide)).2 (by decide) (by decide) ?_
    refine Go.iconst (z := (0 : Int32)) (pc' := 24) C X49 at_23 rfl rfl ?_
    refine Go.istoreN (Ls' := #[.val (.int p1), .val (.int (12 : Int32)), .val (.ref w12), .val (.int (0 : Int32))]) (pc' := 25) C X49 at_24 rfl rfl ?_
    refine Go.aloadN (pc' := 26) C X49 at_25 rfl rfl rfl ?_
    refine Go.callV (y := (⟨"se/bryggan/saml/EidAttribute", "isScoped", "()Z"⟩ : MethodName)) (z := (⟨"se/bryggan/saml/EidAttribute", "isScoped", "()Z"⟩ : MethodName)) (a := w12) (pc' := 29) C X49 (hw _ (List.mem_of_getElem? (i := 8) rfl)) (hw _ (List.mem_of_getElem? (i := 9) rfl)) (notFace_at C.2.1 (hw _ (List.mem_of_getElem? (i := 11) rfl))) (hw _ (List.mem_of_getElem? (i := 11) rfl)) (hw _ (List.mem_of_getElem? (i := 10) rfl)) (Exa.ext O0 E12) (by decide) (rm_isF l Z a0 hw w12 w22 h0 O0 S22 n12) (hw _ (List.mem_of_getElem? (i := 12) rfl)) (hw _ (List.mem_of_getElem? (i := 6) rfl)) e49 (argsL := []) (rest := []) (W := 0) rfl rfl pd_1 rfl (by decide) rfl (by decide) (by decide) (by decide) (by decide) at_26 rfl ?_
    intro T51 v51 L51 X51 q51
    obtain ⟨rfl, rfl, e51⟩ := q51
    have N51 := Fr.app N49 (Fr.nil _)
    refine Go.iloadN (pc' := 30) C X51 at_29 rfl rfl ?_
    refine Go.icmpNo (pc' := 33) C X51 at_30 (teq (x := (0 : Int32)) (y := (0 : Int32)) (by decide)).2 rfl ?_
    refine Go.iconst (z := (1 : Int32)) (pc' := 34) C X51 at_33 rfl rfl ?_
    refine Go.goto (pc' := 38) C X51 at_34 (by decide) (by decide) ?_
    exact Go.retN C X51 rfl at_38 (by simp) (by rw [e51]; exact ⟨rfl, N51, (Keep.refl h0 [])⟩) (by decide) (by decide)
  · rw [q0]
    refine Go.iloadN (pc' := 9) C X0 at_8 rfl rfl ?_
    refine Go.callS (y := (⟨"se/bryggan/saml/EidAttributeIsScopedPinLaw", "pick", "(I)Lse/bryggan/saml/EidAttribute;"⟩ : MethodName)) (pc' := 12) C X0 (hw _ (List.mem_of_getElem? (i := 1) rfl)) (hw _ (List.mem_of_getElem? (i := 2) rfl)) (by decide) (rm_p13 l Z a0 hw w13 h0 O0 S13) (hw _ (List.mem_of_getElem? (i := 4) rfl)) (hw _ (List.mem_of_getElem? (i := 3) rfl)) e0 (argsL := [(.int (13 : Int32))]) (rest := []) (W := 0) rfl rfl pd_0 rfl (by decide) rfl (by decide) (by decide) (by decide) (by decide) at_9 rfl ?_
    intro T53 v53 L53 X53 q53
    obtain ⟨rfl, rfl, e53⟩ := q53
    have N53 := Fr.app N0 (Fr.nil _)
    refine Go.astoreN (Ls' := #[.val (.int p1), .val (.int (13 : Int32)), .val (.ref w13), .unset]) (pc' := 13) C X53 at_12 rfl rfl rfl ?_
    refine Go.iloadN (pc' := 14) C X53 at_13 rfl rfl ?_
    refine Go.bipush (z := (22 : Int32)) (pc' := 16) C X53 at_14 rfl rfl ?_
    refine Go.icmpYes (pc' := 23) C X53 at_16 (feq (x := (13 : Int32)) (y := (22 : Int32)) (by decide)).2 (by decide) (by decide) ?_
    refine Go.iconst (z := (0 : Int32)) (pc' := 24) C X53 at_23 rfl rfl ?_
    refine Go.istoreN (Ls' := #[.val (.int p1), .val (.int (13 : Int32)), .val (.ref w13), .val (.int (0 : Int32))]) (pc' := 25) C X53 at_24 rfl rfl ?_
    refine Go.aloadN (pc' := 26) C X53 at_25 rfl rfl rfl ?_
    refine Go.callV (y := (⟨"se/bryggan/saml/EidAttribute", "isScoped", "()Z"⟩ : MethodName)) (z := (⟨"se/bryggan/saml/EidAttribute", "isScoped", "()Z"⟩ : MethodName)) (a := w13) (pc' := 29) C X53 (hw _ (List.mem_of_getElem? (i := 8) rfl)) (hw _ (List.mem_of_getElem? (i := 9) rfl)) (notFace_at C.2.1 (hw _ (List.mem_of_getElem? (i := 11) rfl))) (hw _ (List.mem_of_getElem? (i := 11) rfl)) (hw _ (List.mem_of_getElem? (i := 10) rfl)) (Exa.ext O0 E13) (by decide) (rm_isF l Z a0 hw w13 w22 h0 O0 S22 n13) (hw _ (List.mem_of_getElem? (i := 12) rfl)) (hw _ (List.mem_of_getElem? (i := 6) rfl)) e53 (argsL := []) (rest := []) (W := 0) rfl rfl pd_1 rfl (by decide) rfl (by decide) (by decide) (by decide) (by decide) at_26 rfl ?_
    intro T55 v55 L55 X55 q55
    obtain ⟨rfl, rfl, e55⟩ := q55
    have N55 := Fr.app N53 (Fr.nil _)
    refine Go.iloadN (pc' := 30) C X55 at_29 rfl rfl ?_
    refine Go.icmpNo (pc' := 33) C X55 at_30 (teq (x := (0 : Int32)) (y := (0 : Int32)) (by decide)).2 rfl ?_
    refine Go.iconst (z := (1 : Int32)) (pc' := 34) C X55 at_33 rfl rfl ?_
    refine Go.goto (pc' := 38) C X55 at_34 (by decide) (by decide) ?_
    exact Go.retN C X55 rfl at_38 (by simp) (by rw [e55]; exact ⟨rfl, N55, (Keep.refl h0 [])⟩) (by decide) (by decide)
  · rw [q0]
    refine Go.iloadN (pc' := 9) C X0 at_8 rfl rfl ?_
    refine Go.callS (y := (⟨"se/bryggan/saml/EidAttributeIsScopedPinLaw", "pick", "(I)Lse/bryggan/saml/EidAttribute;"⟩ : MethodName)) (pc' := 12) C X0 (hw _ (List.mem_of_getElem? (i := 1) rfl)) (hw _ (List.mem_of_getElem? (i := 2) rfl)) (by decide) (rm_p14 l Z a0 hw w14 h0 O0 S14) (hw _ (List.mem_of_getElem? (i := 4) rfl)) (hw _ (List.mem_of_getElem? (i := 3) rfl)) e0 (argsL := [(.int (14 : Int32))]) (rest := []) (W := 0) rfl rfl pd_0 rfl (by decide) rfl (by decide) (by decide) (by decide) (by decide) at_9 rfl ?_
    intro T57 v57 L57 X57 q57
    obtain ⟨rfl, rfl, e57⟩ := q57
    have N57 := Fr.app N0 (Fr.nil _)
    refine Go.astoreN (Ls' := #[.val (.int p1), .val (.int (14 : Int32)), .val (.ref w14), .unset]) (pc' := 13) C X57 at_12 rfl rfl rfl ?_
    refine Go.iloadN (pc' := 14) C X57 at_13 rfl rfl ?_
    refine Go.bipush (z := (22 : Int32)) (pc' := 16) C X57 at_14 rfl rfl ?_
    refine Go.icmpYes (pc' := 23) C X57 at_16 (feq (x := (14 : Int32)) (y := (22 : Int32)) (by decide)).2 (by decide) (by decide) ?_
    refine Go.iconst (z := (0 : Int32)) (pc' := 24) C X57 at_23 rfl rfl ?_
    refine Go.istoreN (Ls' := #[.val (.int p1), .val (.int (14 : Int32)), .val (.ref w14), .val (.int (0 : Int32))]) (pc' := 25) C X57 at_24 rfl rfl ?_
    refine Go.aloadN (pc' := 26) C X57 at_25 rfl rfl rfl ?_
    refine Go.callV (y := (⟨"se/bryggan/saml/EidAttribute", "isScoped", "()Z"⟩ : MethodName)) (z := (⟨"se/bryggan/saml/EidAttribute", "isScoped", "()Z"⟩ : MethodName)) (a := w14) (pc' := 29) C X57 (hw _ (List.mem_of_getElem? (i := 8) rfl)) (hw _ (List.mem_of_getElem? (i := 9) rfl)) (notFace_at C.2.1 (hw _ (List.mem_of_getElem? (i := 11) rfl))) (hw _ (List.mem_of_getElem? (i := 11) rfl)) (hw _ (List.mem_of_getElem? (i := 10) rfl)) (Exa.ext O0 E14) (by decide) (rm_isF l Z a0 hw w14 w22 h0 O0 S22 n14) (hw _ (List.mem_of_getElem? (i := 12) rfl)) (hw _ (List.mem_of_getElem? (i := 6) rfl)) e57 (argsL := []) (rest := []) (W := 0) rfl rfl pd_1 rfl (by decide) rfl (by decide) (by decide) (by decide) (by decide) at_26 rfl ?_
    intro T59 v59 L59 X59 q59
    obtain ⟨rfl, rfl, e59⟩ := q59
    have N59 := Fr.app N57 (Fr.nil _)
    refine Go.iloadN (pc' := 30) C X59 at_29 rfl rfl ?_
    refine Go.icmpNo (pc' := 33) C X59 at_30 (teq (x := (0 : Int32)) (y := (0 : Int32)) (by decide)).2 rfl ?_
    refine Go.iconst (z := (1 : Int32)) (pc' := 34) C X59 at_33 rfl rfl ?_
    refine Go.goto (pc' := 38) C X59 at_34 (by decide) (by decide) ?_
    exact Go.retN C X59 rfl at_38 (by simp) (by rw [e59]; exact ⟨rfl, N59, (Keep.refl h0 [])⟩) (by decide) (by decide)
  · rw [q0]
    refine Go.iloadN (pc' := 9) C X0 at_8 rfl rfl ?_
    refine Go.callS (y := (⟨"se/bryggan/saml/EidAttributeIsScopedPinLaw", "pick", "(I)Lse/bryggan/saml/EidAttribute;"⟩ : MethodName)) (pc' := 12) C X0 (hw _ (List.mem_of_getElem? (i := 1) rfl)) (hw _ (List.mem_of_getElem? (i := 2) rfl)) (by decide) (rm_p15 l Z a0 hw w15 h0 O0 S15) (hw _ (List.mem_of_getElem? (i := 4) rfl)) (hw _ (List.mem_of_getElem? (i := 3) rfl)) e0 (argsL := [(.int (15 : Int32))]) (rest := []) (W := 0) rfl rfl pd_0 rfl (by decide) rfl (by decide) (by decide) (by decide) (by decide) at_9 rfl ?_
    intro T61 v61 L61 X61 q61
    obtain ⟨rfl, rfl, e61⟩ := q61
    have N61 := Fr.app N0 (Fr.nil _)
    refine Go.astoreN (Ls' := #[.val (.int p1), .val (.int (15 : Int32)), .val (.ref w15), .unset]) (pc' := 13) C X61 at_12 rfl rfl rfl ?_
    refine Go.iloadN (pc' := 14) C X61 at_13 rfl rfl ?_
    refine Go.bipush (z := (22 : Int32)) (pc' := 16) C X61 at_14 rfl rfl ?_
    refine Go.icmpYes (pc' := 23) C X61 at_16 (feq (x := (15 : Int32)) (y := (22 : Int32)) (by decide)).2 (by decide) (by decide) ?_
    refine Go.iconst (z := (0 : Int32)) (pc' := 24) C X61 at_23 rfl rfl ?_
    refine Go.istoreN (Ls' := #[.val (.int p1), .val (.int (15 : Int32)), .val (.ref w15), .val (.int (0 : Int32))]) (pc' := 25) C X61 at_24 rfl rfl ?_
    refine Go.aloadN (pc' := 26) C X61 at_25 rfl rfl rfl ?_
    refine Go.callV (y := (⟨"se/bryggan/saml/EidAttribute", "isScoped", "()Z"⟩ : MethodName)) (z := (⟨"se/bryggan/saml/EidAttribute", "isScoped", "()Z"⟩ : MethodName)) (a := w15) (pc' := 29) C X61 (hw _ (List.mem_of_getElem? (i := 8) rfl)) (hw _ (List.mem_of_getElem? (i := 9) rfl)) (notFace_at C.2.1 (hw _ (List.mem_of_getElem? (i := 11) rfl))) (hw _ (List.mem_of_getElem? (i := 11) rfl)) (hw _ (List.mem_of_getElem? (i := 10) rfl)) (Exa.ext O0 E15) (by decide) (rm_isF l Z a0 hw w15 w22 h0 O0 S22 n15) (hw _ (List.mem_of_getElem? (i := 12) rfl)) (hw _ (List.mem_of_getElem? (i := 6) rfl)) e61 (argsL := []) (rest := []) (W := 0) rfl rfl pd_1 rfl (by decide) rfl (by decide) (by decide) (by decide) (by decide) at_26 rfl ?_
    intro T63 v63 L63 X63 q63
    obtain ⟨rfl, rfl, e63⟩ := q63
    have N63 := Fr.app N61 (Fr.nil _)
    refine Go.iloadN (pc' := 30) C X63 at_29 rfl rfl ?_
    refine Go.icmpNo (pc' := 33) C X63 at_30 (teq (x := (0 : Int32)) (y := (0 : Int32)) (by decide)).2 rfl ?_
    refine Go.iconst (z := (1 : Int32)) (pc' := 34) C X63 at_33 rfl rfl ?_
    refine Go.goto (pc' := 38) C X63 at_34 (by decide) (by decide) ?_
    exact Go.retN C X63 rfl at_38 (by simp) (by rw [e63]; exact ⟨rfl, N63, (Keep.refl h0 [])⟩) (by decide) (by decide)
  · rw [q0]
    refine Go.iloadN (pc' := 9) C X0 at_8 rfl rfl ?_
    refine Go.callS (y := (⟨"se/bryggan/saml/EidAttributeIsScopedPinLaw", "pick", "(I)Lse/bryggan/saml/EidAttribute;"⟩ : MethodName)) (pc' := 12) C X0 (hw _ (List.mem_of_getElem? (i := 1) rfl)) (hw _ (List.mem_of_getElem? (i := 2) rfl)) (by decide) (rm_p16 l Z a0 hw w16 h0 O0 S16) (hw _ (List.mem_of_getElem? (i := 4) rfl)) (hw _ (List.mem_of_getElem? (i := 3) rfl)) e0 (argsL := [(.int (16 : Int32))]) (rest := []) (W := 0) rfl rfl pd_0 rfl (by decide) rfl (by decide) (by decide) (by decide) (by decide) at_9 rfl ?_
    intro T65 v65 L65 X65 q65
    obtain ⟨rfl, rfl, e65⟩ := q65
    have N65 := Fr.app N0 (Fr.nil _)
    refine Go.astoreN (Ls' := #[.val (.int p1), .val (.int (16 : Int32)), .val (.ref w16), .unset]) (pc' := 13) C X65 at_12 rfl rfl rfl ?_
    refine Go.iloadN (pc' := 14) C X65 at_13 rfl rfl ?_
    refine Go.bipush (z := (22 : Int32)) (pc' := 16) C X65 at_14 rfl rfl ?_
    refine Go.icmpYes (pc' := 23) C X65 at_16 (feq (x := (16 : Int32)) (y := (22 : Int32)) (by decide)).2 (by decide) (by decide) ?_
    refine Go.iconst (z := (0 : Int32)) (pc' := 24) C X65 at_23 rfl rfl ?_
    refine Go.istoreN (Ls' := #[.val (.int p1), .val (.int (16 : Int32)), .val (.ref w16), .val (.int (0 : Int32))]) (pc' := 25) C X65 at_24 rfl rfl ?_
    refine Go.aloadN (pc' := 26) C X65 at_25 rfl rfl rfl ?_
    refine Go.callV (y := (⟨"se/bryggan/saml/EidAttribute", "isScoped", "()Z"⟩ : MethodName)) (z := (⟨"se/bryggan/saml/EidAttribute", "isScoped", "()Z"⟩ : MethodName)) (a := w16) (pc' := 29) C X65 (hw _ (List.mem_of_getElem? (i := 8) rfl)) (hw _ (List.mem_of_getElem? (i := 9) rfl)) (notFace_at C.2.1 (hw _ (List.mem_of_getElem? (i := 11) rfl))) (hw _ (List.mem_of_getElem? (i := 11) rfl)) (hw _ (List.mem_of_getElem? (i := 10) rfl)) (Exa.ext O0 E16) (by decide) (rm_isF l Z a0 hw w16 w22 h0 O0 S22 n16) (hw _ (List.mem_of_getElem? (i := 12) rfl)) (hw _ (List.mem_of_getElem? (i := 6) rfl)) e65 (argsL := []) (rest := []) (W := 0) rfl rfl pd_1 rfl (by decide) rfl (by decide) (by decide) (by decide) (by decide) at_26 rfl ?_
    intro T67 v67 L67 X67 q67
    obtain ⟨rfl, rfl, e67⟩ := q67
    have N67 := Fr.app N65 (Fr.nil _)
    refine Go.iloadN (pc' := 30) C X67 at_29 rfl rfl ?_
    refine Go.icmpNo (pc' := 33) C X67 at_30 (teq (x := (0 : Int32)) (y := (0 : Int32)) (by decide)).2 rfl ?_
    refine Go.iconst (z := (1 : Int32)) (pc' := 34) C X67 at_33 rfl rfl ?_
    refine Go.goto (pc' := 38) C X67 at_34 (by decide) (by decide) ?_
    exact Go.retN C X67 rfl at_38 (by simp) (by rw [e67]; exact ⟨rfl, N67, (Keep.refl h0 [])⟩) (by decide) (by decide)
  · rw [q0]
    refine Go.iloadN (pc' := 9) C X0 at_8 rfl rfl ?_
    refine Go.callS (y := (⟨"se/bryggan/saml/EidAttributeIsScopedPinLaw", "pick", "(I)Lse/bryggan/saml/EidAttribute;"⟩ : MethodName)) (pc' := 12) C X0 (hw _ (List.mem_of_getElem? (i := 1) rfl)) (hw _ (List.mem_of_getElem? (i := 2) rfl)) (by decide) (rm_p17 l Z a0 hw w17 h0 O0 S17) (hw _ (List.mem_of_getElem? (i := 4) rfl)) (hw _ (List.mem_of_getElem? (i := 3) rfl)) e0 (argsL := [(.int (17 : Int32))]) (rest := []) (W := 0) rfl rfl pd_0 rfl (by decide) rfl (by decide) (by decide) (by decide) (by decide) at_9 rfl ?_
    intro T69 v69 L69 X69 q69
    obtain ⟨rfl, rfl, e69⟩ := q69
    have N69 := Fr.app N0 (Fr.nil _)
    refine Go.astoreN (Ls' := #[.val (.int p1), .val (.int (17 : Int32)), .val (.ref w17), .unset]) (pc' := 13) C X69 at_12 rfl rfl rfl ?_
    refine Go.iloadN (pc' := 14) C X69 at_13 rfl rfl ?_
    refine Go.bipush (z := (22 : Int32)) (pc' := 16) C X69 at_14 rfl rfl ?_
    refine Go.icmpYes (pc' := 23) C X69 at_16 (feq (x := (17 : Int32)) (y := (22 : Int32)) (by decide)).2 (by decide) (by decide) ?_
    refine Go.iconst (z := (0 : Int32)) (pc' := 24) C X69 at_23 rfl rfl ?_
    refine Go.istoreN (Ls' := #[.val (.int p1), .val (.int (17 : Int32)), .val (.ref w17), .val (.int (0 : Int32))]) (pc' := 25) C X69 at_24 rfl rfl ?_
    refine Go.aloadN (pc' := 26) C X69 at_25 rfl rfl rfl ?_
    refine Go.callV (y := (⟨"se/bryggan/saml/EidAttribute", "isScoped", "()Z"⟩ : MethodName)) (z := (⟨"se/bryggan/saml/EidAttribute", "isScoped", "()Z"⟩ : MethodName)) (a := w17) (pc' := 29) C X69 (hw _ (List.mem_of_getElem? (i := 8) rfl)) (hw _ (List.mem_of_getElem? (i := 9) rfl)) (notFace_at C.2.1 (hw _ (List.mem_of_getElem? (i := 11) rfl))) (hw _ (List.mem_of_getElem? (i := 11) rfl)) (hw _ (List.mem_of_getElem? (i := 10) rfl)) (Exa.ext O0 E17) (by decide) (rm_isF l Z a0 hw w17 w22 h0 O0 S22 n17) (hw _ (List.mem_of_getElem? (i := 12) rfl)) (hw _ (List.mem_of_getElem? (i := 6) rfl)) e69 (argsL := []) (rest := []) (W := 0) rfl rfl pd_1 rfl (by decide) rfl (by decide) (by decide) (by decide) (by decide) at_26 rfl ?_
    intro T71 v71 L71 X71 q71
    obtain ⟨rfl, rfl, e71⟩ := q71
    have N71 := Fr.app N69 (Fr.nil _)
    refine Go.iloadN (pc' := 30) C X71 at_29 rfl rfl ?_
    refine Go.icmpNo (pc' := 33) C X71 at_30 (teq (x := (0 : Int32)) (y := (0 : Int32)) (by decide)).2 rfl ?_
    refine Go.iconst (z := (1 : Int32)) (pc' := 34) C X71 at_33 rfl rfl ?_
    refine Go.goto (pc' := 38) C X71 at_34 (by decide) (by decide) ?_
    exact Go.retN C X71 rfl at_38 (by simp) (by rw [e71]; exact ⟨rfl, N71, (Keep.refl h0 [])⟩) (by decide) (by decide)
  · rw [q0]
    refine Go.iloadN (pc' := 9) C X0 at_8 rfl rfl ?_
    refine Go.callS (y := (⟨"se/bryggan/saml/EidAttributeIsScopedPinLaw", "pick", "(I)Lse/bryggan/saml/EidAttribute;"⟩ : MethodName)) (pc' := 12) C X0 (hw _ (List.mem_of_getElem? (i := 1) rfl)) (hw _ (List.mem_of_getElem? (i := 2) rfl)) (by decide) (rm_p18 l Z a0 hw w18 h0 O0 S18) (hw _ (List.mem_of_getElem? (i := 4) rfl)) (hw _ (List.mem_of_getElem? (i := 3) rfl)) e0 (argsL := [(.int (18 : Int32))]) (rest := []) (W := 0) rfl rfl pd_0 rfl (by decide) rfl (by decide) (by decide) (by decide) (by decide) at_9 rfl ?_
    intro T73 v73 L73 X73 q73
    obtain ⟨rfl, rfl, e73⟩ := q73
    have N73 := Fr.app N0 (Fr.nil _)
    refine Go.astoreN (Ls' := #[.val (.int p1), .val (.int (18 : Int32)), .val (.ref w18), .unset]) (pc' := 13) C X73 at_12 rfl rfl rfl ?_
    refine Go.iloadN (pc' := 14) C X73 at_13 rfl rfl ?_
    refine Go.bipush (z := (22 : Int32)) (pc' := 16) C X73 at_14 rfl rfl ?_
    refine Go.icmpYes (pc' := 23) C X73 at_16 (feq (x := (18 : Int32)) (y := (22 : Int32)) (by decide)).2 (by decide) (by decide) ?_
    refine Go.iconst (z := (0 : Int32)) (pc' := 24) C X73 at_23 rfl rfl ?_
    refine Go.istoreN (Ls' := #[.val (.int p1), .val (.int (18 : Int32)), .val (.ref w18), .val (.int (0 : Int32))]) (pc' := 25) C X73 at_24 rfl rfl ?_
    refine Go.aloadN (pc' := 26) C X73 at_25 rfl rfl rfl ?_
    refine Go.callV (y := (⟨"se/bryggan/saml/EidAttribute", "isScoped", "()Z"⟩ : MethodName)) (z := (⟨"se/bryggan/saml/EidAttribute", "isScoped", "()Z"⟩ : MethodName)) (a := w18) (pc' := 29) C X73 (hw _ (List.mem_of_getElem? (i := 8) rfl)) (hw _ (List.mem_of_getElem? (i := 9) rfl)) (notFace_at C.2.1 (hw _ (List.mem_of_getElem? (i := 11) rfl))) (hw _ (List.mem_of_getElem? (i := 11) rfl)) (hw _ (List.mem_of_getElem? (i := 10) rfl)) (Exa.ext O0 E18) (by decide) (rm_isF l Z a0 hw w18 w22 h0 O0 S22 n18) (hw _ (List.mem_of_getElem? (i := 12) rfl)) (hw _ (List.mem_of_getElem? (i := 6) rfl)) e73 (argsL := []) (rest := []) (W := 0) rfl rfl pd_1 rfl (by decide) rfl (by decide) (by decide) (by decide) (by decide) at_26 rfl ?_
    intro T75 v75 L75 X75 q75
    obtain ⟨rfl, rfl, e75⟩ := q75
    have N75 := Fr.app N73 (Fr.nil _)
    refine Go.iloadN (pc' := 30) C X75 at_29 rfl rfl ?_
    refine Go.icmpNo (pc' := 33) C X75 at_30 (teq (x := (0 : Int32)) (y := (0 : Int32)) (by decide)).2 rfl ?_
    refine Go.iconst (z := (1 : Int32)) (pc' := 34) C X75 at_33 rfl rfl ?_
    refine Go.goto (pc' := 38) C X75 at_34 (by decide) (by decide) ?_
    exact Go.retN C X75 rfl at_38 (by simp) (by rw [e75]; exact ⟨rfl, N75, (Keep.refl h0 [])⟩) (by decide) (by decide)
  · rw [q0]
    refine Go.iloadN (pc' := 9) C X0 at_8 rfl rfl ?_
    refine Go.callS (y := (⟨"se/bryggan/saml/EidAttributeIsScopedPinLaw", "pick", "(I)Lse/bryggan/saml/EidAttribute;"⟩ : MethodName)) (pc' := 12) C X0 (hw _ (List.mem_of_getElem? (i := 1) rfl)) (hw _ (List.mem_of_getElem? (i := 2) rfl)) (by decide) (rm_p19 l Z a0 hw w19 h0 O0 S19) (hw _ (List.mem_of_getElem? (i := 4) rfl)) (hw _ (List.mem_of_getElem? (i := 3) rfl)) e0 (argsL := [(.int (19 : Int32))]) (rest := []) (W := 0) rfl rfl pd_0 rfl (by decide) rfl (by decide) (by decide) (by decide) (by decide) at_9 rfl ?_
    intro T77 v77 L77 X77 q77
    obtain ⟨rfl, rfl, e77⟩ := q77
    have N77 := Fr.app N0 (Fr.nil _)
    refine Go.astoreN (Ls' := #[.val (.int p1), .val (.int (19 : Int32)), .val (.ref w19), .unset]) (pc' := 13) C X77 at_12 rfl rfl rfl ?_
    refine Go.iloadN (pc' := 14) C X77 at_13 rfl rfl ?_
    refine Go.bipush (z := (22 : Int32)) (pc' := 16) C X77 at_14 rfl rfl ?_
    refine Go.icmpYes (pc' := 23) C X77 at_16 (feq (x := (19 : Int32)) (y := (22 : Int32)) (by decide)).2 (by decide) (by decide) ?_
    refine Go.iconst (z := (0 : Int32)) (pc' := 24) C X77 at_23 rfl rfl ?_
    refine Go.istoreN (Ls' := #[.val (.int p1), .val (.int (19 : Int32)), .val (.ref w19), .val (.int (0 : Int32))]) (pc' := 25) C X77 at_24 rfl rfl ?_
    refine Go.aloadN (pc' := 26) C X77 at_25 rfl rfl rfl ?_
    refine Go.callV (y := (⟨"se/bryggan/saml/EidAttribute", "isScoped", "()Z"⟩ : MethodName)) (z := (⟨"se/bryggan/saml/EidAttribute", "isScoped", "()Z"⟩ : MethodName)) (a := w19) (pc' := 29) C X77 (hw _ (List.mem_of_getElem? (i := 8) rfl)) (hw _ (List.mem_of_getElem? (i := 9) rfl)) (notFace_at C.2.1 (hw _ (List.mem_of_getElem? (i := 11) rfl))) (hw _ (List.mem_of_getElem? (i := 11) rfl)) (hw _ (List.mem_of_getElem? (i := 10) rfl)) (Exa.ext O0 E19) (by decide) (rm_isF l Z a0 hw w19 w22 h0 O0 S22 n19) (hw _ (List.mem_of_getElem? (i := 12) rfl)) (hw _ (List.mem_of_getElem? (i := 6) rfl)) e77 (argsL := []) (rest := []) (W := 0) rfl rfl pd_1 rfl (by decide) rfl (by decide) (by decide) (by decide) (by decide) at_26 rfl ?_
    intro T79 v79 L79 X79 q79
    obtain ⟨rfl, rfl, e79⟩ := q79
    have N79 := Fr.app N77 (Fr.nil _)
    refine Go.iloadN (pc' := 30) C X79 at_29 rfl rfl ?_
    refine Go.icmpNo (pc' := 33) C X79 at_30 (teq (x := (0 : Int32)) (y := (0 : Int32)) (by decide)).2 rfl ?_
    refine Go.iconst (z := (1 : Int32)) (pc' := 34) C X79 at_33 rfl rfl ?_
    refine Go.goto (pc' := 38) C X79 at_34 (by decide) (by decide) ?_
    exact Go.retN C X79 rfl at_38 (by simp) (by rw [e79]; exact ⟨rfl, N79, (Keep.refl h0 [])⟩) (by decide) (by decide)
  · rw [q0]
    refine Go.iloadN (pc' := 9) C X0 at_8 rfl rfl ?_
    refine Go.callS (y := (⟨"se/bryggan/saml/EidAttributeIsScopedPinLaw", "pick", "(I)Lse/bryggan/saml/EidAttribute;"⟩ : MethodName)) (pc' := 12) C X0 (hw _ (List.mem_of_getElem? (i := 1) rfl)) (hw _ (List.mem_of_getElem? (i := 2) rfl)) (by decide) (rm_p20 l Z a0 hw w20 h0 O0 S20) (hw _ (List.mem_of_getElem? (i := 4) rfl)) (hw _ (List.mem_of_getElem? (i := 3) rfl)) e0 (argsL := [(.int (20 : Int32))]) (rest := []) (W := 0) rfl rfl pd_0 rfl (by decide) rfl (by decide) (by decide) (by decide) (by decide) at_9 rfl ?_
    intro T81 v81 L81 X81 q81
    obtain ⟨rfl, rfl, e81⟩ := q81
    have N81 := Fr.app N0 (Fr.nil _)
    refine Go.astoreN (Ls' := #[.val (.int p1), .val (.int (20 : Int32)), .val (.ref w20), .unset]) (pc' := 13) C X81 at_12 rfl rfl rfl ?_
    refine Go.iloadN (pc' := 14) C X81 at_13 rfl rfl ?_
    refine Go.bipush (z := (22 : Int32)) (pc' := 16) C X81 at_14 rfl rfl ?_
    refine Go.icmpYes (pc' := 23) C X81 at_16 (feq (x := (20 : Int32)) (y := (22 : Int32)) (by decide)).2 (by decide) (by decide) ?_
    refine Go.iconst (z := (0 : Int32)) (pc' := 24) C X81 at_23 rfl rfl ?_
    refine Go.istoreN (Ls' := #[.val (.int p1), .val (.int (20 : Int32)), .val (.ref w20), .val (.int (0 : Int32))]) (pc' := 25) C X81 at_24 rfl rfl ?_
    refine Go.aloadN (pc' := 26) C X81 at_25 rfl rfl rfl ?_
    refine Go.callV (y := (⟨"se/bryggan/saml/EidAttribute", "isScoped", "()Z"⟩ : MethodName)) (z := (⟨"se/bryggan/saml/EidAttribute", "isScoped", "()Z"⟩ : MethodName)) (a := w20) (pc' := 29) C X81 (hw _ (List.mem_of_getElem? (i := 8) rfl)) (hw _ (List.mem_of_getElem? (i := 9) rfl)) (notFace_at C.2.1 (hw _ (List.mem_of_getElem? (i := 11) rfl))) (hw _ (List.mem_of_getElem? (i := 11) rfl)) (hw _ (List.mem_of_getElem? (i := 10) rfl)) (Exa.ext O0 E20) (by decide) (rm_isF l Z a0 hw w20 w22 h0 O0 S22 n20) (hw _ (List.mem_of_getElem? (i := 12) rfl)) (hw _ (List.mem_of_getElem? (i := 6) rfl)) e81 (argsL := []) (rest := []) (W := 0) rfl rfl pd_1 rfl (by decide) rfl (by decide) (by decide) (by decide) (by decide) at_26 rfl ?_
    intro T83 v83 L83 X83 q83
    obtain ⟨rfl, rfl, e83⟩ := q83
    have N83 := Fr.app N81 (Fr.nil _)
    refine Go.iloadN (pc' := 30) C X83 at_29 rfl rfl ?_
    refine Go.icmpNo (pc' := 33) C X83 at_30 (teq (x := (0 : Int32)) (y := (0 : Int32)) (by decide)).2 rfl ?_
    refine Go.iconst (z := (1 : Int32)) (pc' := 34) C X83 at_33 rfl rfl ?_
    refine Go.goto (pc' := 38) C X83 at_34 (by decide) (by decide) ?_
    exact Go.retN C X83 rfl at_38 (by simp) (by rw [e83]; exact ⟨rfl, N83, (Keep.refl h0 [])⟩) (by decide) (by decide)
  · rw [q0]
    refine Go.iloadN (pc' := 9) C X0 at_8 rfl rfl ?_
    refine Go.callS (y := (⟨"se/bryggan/saml/EidAttributeIsScopedPinLaw", "pick", "(I)Lse/bryggan/saml/EidAttribute;"⟩ : MethodName)) (pc' := 12) C X0 (hw _ (List.mem_of_getElem? (i := 1) rfl)) (hw _ (List.mem_of_getElem? (i := 2) rfl)) (by decide) (rm_p21 l Z a0 hw w21 h0 O0 S21) (hw _ (List.mem_of_getElem? (i := 4) rfl)) (hw _ (List.mem_of_getElem? (i := 3) rfl)) e0 (argsL := [(.int (21 : Int32))]) (rest := []) (W := 0) rfl rfl pd_0 rfl (by decide) rfl (by decide) (by decide) (by decide) (by decide) at_9 rfl ?_
    intro T85 v85 L85 X85 q85
    obtain ⟨rfl, rfl, e85⟩ := q85
    have N85 := Fr.app N0 (Fr.nil _)
    refine Go.astoreN (Ls' := #[.val (.int p1), .val (.int (21 : Int32)), .val (.ref w21), .unset]) (pc' := 13) C X85 at_12 rfl rfl rfl ?_
    refine Go.iloadN (pc' := 14) C X85 at_13 rfl rfl ?_
    refine Go.bipush (z := (22 : Int32)) (pc' := 16) C X85 at_14 rfl rfl ?_
    refine Go.icmpYes (pc' := 23) C X85 at_16 (feq (x := (21 : Int32)) (y := (22 : Int32)) (by decide)).2 (by decide) (by decide) ?_
    refine Go.iconst (z := (0 : Int32)) (pc' := 24) C X85 at_23 rfl rfl ?_
    refine Go.istoreN (Ls' := #[.val (.int p1), .val (.int (21 : Int32)), .val (.ref w21), .val (.int (0 : Int32))]) (pc' := 25) C X85 at_24 rfl rfl ?_
    refine Go.aloadN (pc' := 26) C X85 at_25 rfl rfl rfl ?_
    refine Go.callV (y := (⟨"se/bryggan/saml/EidAttribute", "isScoped", "()Z"⟩ : MethodName)) (z := (⟨"se/bryggan/saml/EidAttribute", "isScoped", "()Z"⟩ : MethodName)) (a := w21) (pc' := 29) C X85 (hw _ (List.mem_of_getElem? (i := 8) rfl)) (hw _ (List.mem_of_getElem? (i := 9) rfl)) (notFace_at C.2.1 (hw _ (List.mem_of_getElem? (i := 11) rfl))) (hw _ (List.mem_of_getElem? (i := 11) rfl)) (hw _ (List.mem_of_getElem? (i := 10) rfl)) (Exa.ext O0 E21) (by decide) (rm_isF l Z a0 hw w21 w22 h0 O0 S22 n21) (hw _ (List.mem_of_getElem? (i := 12) rfl)) (hw _ (List.mem_of_getElem? (i := 6) rfl)) e85 (argsL := []) (rest := []) (W := 0) rfl rfl pd_1 rfl (by decide) rfl (by decide) (by decide) (by decide) (by decide) at_26 rfl ?_
    intro T87 v87 L87 X87 q87
    obtain ⟨rfl, rfl, e87⟩ := q87
    have N87 := Fr.app N85 (Fr.nil _)
    refine Go.iloadN (pc' := 30) C X87 at_29 rfl rfl ?_
    refine Go.icmpNo (pc' := 33) C X87 at_30 (teq (x := (0 : Int32)) (y := (0 : Int32)) (by decide)).2 rfl ?_
    refine Go.iconst (z := (1 : Int32)) (pc' := 34) C X87 at_33 rfl rfl ?_
    refine Go.goto (pc' := 38) C X87 at_34 (by decide) (by decide) ?_
    exact Go.retN C X87 rfl at_38 (by simp) (by rw [e87]; exact ⟨rfl, N87, (Keep.refl h0 [])⟩) (by decide) (by decide)
  · rw [q0]
    refine Go.iloadN (pc' := 9) C X0 at_8 rfl rfl ?_
    refine Go.callS (y := (⟨"se/bryggan/saml/EidAttributeIsScopedPinLaw", "pick", "(I)Lse/bryggan/saml/EidAttribute;"⟩ : MethodName)) (pc' := 12) C X0 (hw _ (List.mem_of_getElem? (i := 1) rfl)) (hw _ (List.mem_of_getElem? (i := 2) rfl)) (by decide) (rm_p22 l Z a0 hw w22 h0 O0 S22) (hw _ (List.mem_of_getElem? (i := 4) rfl)) (hw _ (List.mem_of_getElem? (i := 3) rfl)) e0 (argsL := [(.int (22 : Int32))]) (rest := []) (W := 0) rfl rfl pd_0 rfl (by decide) rfl (by decide) (by decide) (by decide) (by decide) at_9 rfl ?_
    intro T89 v89 L89 X89 q89
    obtain ⟨rfl, rfl, e89⟩ := q89
    have N89 := Fr.app N0 (Fr.nil _)
    refine Go.astoreN (Ls' := #[.val (.int p1), .val (.int (22 : Int32)), .val (.ref w22), .unset]) (pc' := 13) C X89 at_12 rfl rfl rfl ?_
    refine Go.iloadN (pc' := 14) C X89 at_13 rfl rfl ?_
    refine Go.bipush (z := (22 : Int32)) (pc' := 16) C X89 at_14 rfl rfl ?_
    refine Go.icmpNo (pc' := 19) C X89 at_16 (teq (x := (22 : Int32)) (y := (22 : Int32)) (by decide)).2 rfl ?_
    refine Go.iconst (z := (1 : Int32)) (pc' := 20) C X89 at_19 rfl rfl ?_
    refine Go.goto (pc' := 24) C X89 at_20 (by decide) (by decide) ?_
    refine Go.istoreN (Ls' := #[.val (.int p1), .val (.int (22 : Int32)), .val (.ref w22), .val (.int (1 : Int32))]) (pc' := 25) C X89 at_24 rfl rfl ?_
    refine Go.aloadN (pc' := 26) C X89 at_25 rfl rfl rfl ?_
    refine Go.callV (y := (⟨"se/bryggan/saml/EidAttribute", "isScoped", "()Z"⟩ : MethodName)) (z := (⟨"se/bryggan/saml/EidAttribute", "isScoped", "()Z"⟩ : MethodName)) (a := w22) (pc' := 29) C X89 (hw _ (List.mem_of_getElem? (i := 8) rfl)) (hw _ (List.mem_of_getElem? (i := 9) rfl)) (notFace_at C.2.1 (hw _ (List.mem_of_getElem? (i := 11) rfl))) (hw _ (List.mem_of_getElem? (i := 11) rfl)) (hw _ (List.mem_of_getElem? (i := 10) rfl)) (Exa.ext O0 E22) (by decide) (rm_isT l Z a0 hw w22 h0 O0 S22) (hw _ (List.mem_of_getElem? (i := 12) rfl)) (hw _ (List.mem_of_getElem? (i := 6) rfl)) e89 (argsL := []) (rest := []) (W := 0) rfl rfl pd_1 rfl (by decide) rfl (by decide) (by decide) (by decide) (by decide) at_26 rfl ?_
    intro T91 v91 L91 X91 q91
    obtain ⟨rfl, rfl, e91⟩ := q91
    have N91 := Fr.app N89 (Fr.nil _)
    refine Go.iloadN (pc' := 30) C X91 at_29 rfl rfl ?_
    refine Go.icmpNo (pc' := 33) C X91 at_30 (teq (x := (1 : Int32)) (y := (1 : Int32)) (by decide)).2 rfl ?_
    refine Go.iconst (z := (1 : Int32)) (pc' := 34) C X91 at_33 rfl rfl ?_
    refine Go.goto (pc' := 38) C X91 at_34 (by decide) (by decide) ?_
    exact Go.retN C X91 rfl at_38 (by simp) (by rw [e91]; exact ⟨rfl, N91, (Keep.refl h0 [])⟩) (by decide) (by decide)
  · rw [q0]
    refine Go.iloadN (pc' := 9) C X0 at_8 rfl rfl ?_
    refine Go.callS (y := (⟨"se/bryggan/saml/EidAttributeIsScopedPinLaw", "pick", "(I)Lse/bryggan/saml/EidAttribute;"⟩ : MethodName)) (pc' := 12) C X0 (hw _ (List.mem_of_getElem? (i := 1) rfl)) (hw _ (List.mem_of_getElem? (i := 2) rfl)) (by decide) (rm_p23 l Z a0 hw w23 h0 O0 S23) (hw _ (List.mem_of_getElem? (i := 4) rfl)) (hw _ (List.mem_of_getElem? (i := 3) rfl)) e0 (argsL := [(.int (23 : Int32))]) (rest := []) (W := 0) rfl rfl pd_0 rfl (by decide) rfl (by decide) (by decide) (by decide) (by decide) at_9 rfl ?_
    intro T93 v93 L93 X93 q93
    obtain ⟨rfl, rfl, e93⟩ := q93
    have N93 := Fr.app N0 (Fr.nil _)
    refine Go.astoreN (Ls' := #[.val (.int p1), .val (.int (23 : Int32)), .val (.ref w23), .unset]) (pc' := 13) C X93 at_12 rfl rfl rfl ?_
    refine Go.iloadN (pc' := 14) C X93 at_13 rfl rfl ?_
    refine Go.bipush (z := (22 : Int32)) (pc' := 16) C X93 at_14 rfl rfl ?_
    refine Go.icmpYes (pc' := 23) C X93 at_16 (feq (x := (23 : Int32)) (y := (22 : Int32)) (by decide)).2 (by decide) (by decide) ?_
    refine Go.iconst (z := (0 : Int32)) (pc' := 24) C X93 at_23 rfl rfl ?_
    refine Go.istoreN (Ls' := #[.val (.int p1), .val (.int (23 : Int32)), .val (.ref w23), .val (.int (0 : Int32))]) (pc' := 25) C X93 at_24 rfl rfl ?_
    refine Go.aloadN (pc' := 26) C X93 at_25 rfl rfl rfl ?_
    refine Go.callV (y := (⟨"se/bryggan/saml/EidAttribute", "isScoped", "()Z"⟩ : MethodName)) (z := (⟨"se/bryggan/saml/EidAttribute", "isScoped", "()Z"⟩ : MethodName)) (a := w23) (pc' := 29) C X93 (hw _ (List.mem_of_getElem? (i := 8) rfl)) (hw _ (List.mem_of_getElem? (i := 9) rfl)) (notFace_at C.2.1 (hw _ (List.mem_of_getElem? (i := 11) rfl))) (hw _ (List.mem_of_getElem? (i := 11) rfl)) (hw _ (List.mem_of_getElem? (i := 10) rfl)) (Exa.ext O0 E23) (by decide) (rm_isF l Z a0 hw w23 w22 h0 O0 S22 n23) (hw _ (List.mem_of_getElem? (i := 12) rfl)) (hw _ (List.mem_of_getElem? (i := 6) rfl)) e93 (argsL := []) (rest := []) (W := 0) rfl rfl pd_1 rfl (by decide) rfl (by decide) (by decide) (by decide) (by decide) at_26 rfl ?_
    intro T95 v95 L95 X95 q95
    obtain ⟨rfl, rfl, e95⟩ := q95
    have N95 := Fr.app N93 (Fr.nil _)
    refine Go.iloadN (pc' := 30) C X95 at_29 rfl rfl ?_
    refine Go.icmpNo (pc' := 33) C X95 at_30 (teq (x := (0 : Int32)) (y := (0 : Int32)) (by decide)).2 rfl ?_
    refine Go.iconst (z := (1 : Int32)) (pc' := 34) C X95 at_33 rfl rfl ?_
    refine Go.goto (pc' := 38) C X95 at_34 (by decide) (by decide) ?_
    exact Go.retN C X95 rfl at_38 (by simp) (by rw [e95]; exact ⟨rfl, N95, (Keep.refl h0 [])⟩) (by decide) (by decide)
  · rw [q0]
    refine Go.iloadN (pc' := 9) C X0 at_8 rfl rfl ?_
    refine Go.callS (y := (⟨"se/bryggan/saml/EidAttributeIsScopedPinLaw", "pick", "(I)Lse/bryggan/saml/EidAttribute;"⟩ : MethodName)) (pc' := 12) C X0 (hw _ (List.mem_of_getElem? (i := 1) rfl)) (hw _ (List.mem_of_getElem? (i := 2) rfl)) (by decide) (rm_p24 l Z a0 hw w24 h0 O0 S24) (hw _ (List.mem_of_getElem? (i := 4) rfl)) (hw _ (List.mem_of_getElem? (i := 3) rfl)) e0 (argsL := [(.int (24 : Int32))]) (rest := []) (W := 0) rfl rfl pd_0 rfl (by decide) rfl (by decide) (by decide) (by decide) (by decide) at_9 rfl ?_
    intro T97 v97 L97 X97 q97
    obtain ⟨rfl, rfl, e97⟩ := q97
    have N97 := Fr.app N0 (Fr.nil _)
    refine Go.astoreN (Ls' := #[.val (.int p1), .val (.int (24 : Int32)), .val (.ref w24), .unset]) (pc' := 13) C X97 at_12 rfl rfl rfl ?_
    refine Go.iloadN (pc' := 14) C X97 at_13 rfl rfl ?_
    refine Go.bipush (z := (22 : Int32)) (pc' := 16) C X97 at_14 rfl rfl ?_
    refine Go.icmpYes (pc' := 23) C X97 at_16 (feq (x := (24 : Int32)) (y := (22 : Int32)) (by decide)).2 (by decide) (by decide) ?_
    refine Go.iconst (z := (0 : Int32)) (pc' := 24) C X97 at_23 rfl rfl ?_
    refine Go.istoreN (Ls' := #[.val (.int p1), .val (.int (24 : Int32)), .val (.ref w24), .val (.int (0 : Int32))]) (pc' := 25) C X97 at_24 rfl rfl ?_
    refine Go.aloadN (pc' := 26) C X97 at_25 rfl rfl rfl ?_
    refine Go.callV (y := (⟨"se/bryggan/saml/EidAttribute", "isScoped", "()Z"⟩ : MethodName)) (z := (⟨"se/bryggan/saml/EidAttribute", "isScoped", "()Z"⟩ : MethodName)) (a := w24) (pc' := 29) C X97 (hw _ (List.mem_of_getElem? (i := 8) rfl)) (hw _ (List.mem_of_getElem? (i := 9) rfl)) (notFace_at C.2.1 (hw _ (List.mem_of_getElem? (i := 11) rfl))) (hw _ (List.mem_of_getElem? (i := 11) rfl)) (hw _ (List.mem_of_getElem? (i := 10) rfl)) (Exa.ext O0 E24) (by decide) (rm_isF l Z a0 hw w24 w22 h0 O0 S22 n24) (hw _ (List.mem_of_getElem? (i := 12) rfl)) (hw _ (List.mem_of_getElem? (i := 6) rfl)) e97 (argsL := []) (rest := []) (W := 0) rfl rfl pd_1 rfl (by decide) rfl (by decide) (by decide) (by decide) (by decide) at_26 rfl ?_
    intro T99 v99 L99 X99 q99
    obtain ⟨rfl, rfl, e99⟩ := q99
    have N99 := Fr.app N97 (Fr.nil _)
    refine Go.iloadN (pc' := 30) C X99 at_29 rfl rfl ?_
    refine Go.icmpNo (pc' := 33) C X99 at_30 (teq (x := (0 : Int32)) (y := (0 : Int32)) (by decide)).2 rfl ?_
    refine Go.iconst (z := (1 : Int32)) (pc' := 34) C X99 at_33 rfl rfl ?_
    refine Go.goto (pc' := 38) C X99 at_34 (by decide) (by decide) ?_
    exact Go.retN C X99 rfl at_38 (by simp) (by rw [e99]; exact ⟨rfl, N99, (Keep.refl h0 [])⟩) (by decide) (by decide)
  · rw [q0]
    refine Go.iloadN (pc' := 9) C X0 at_8 rfl rfl ?_
    refine Go.callS (y := (⟨"se/bryggan/saml/EidAttributeIsScopedPinLaw", "pick", "(I)Lse/bryggan/saml/EidAttribute;"⟩ : MethodName)) (pc' := 12) C X0 (hw _ (List.mem_of_getElem? (i := 1) rfl)) (hw _ (List.mem_of_getElem? (i := 2) rfl)) (by decide) (rm_p25 l Z a0 hw w25 h0 O0 S25) (hw _ (List.mem_of_getElem? (i := 4) rfl)) (hw _ (List.mem_of_getElem? (i := 3) rfl)) e0 (argsL := [(.int (25 : Int32))]) (rest := []) (W := 0) rfl rfl pd_0 rfl (by decide) rfl (by decide) (by decide) (by decide) (by decide) at_9 rfl ?_
    intro T101 v101 L101 X101 q101
    obtain ⟨rfl, rfl, e101⟩ := q101
    have N101 := Fr.app N0 (Fr.nil _)
    refine Go.astoreN (Ls' := #[.val (.int p1), .val (.int (25 : Int32)), .val (.ref w25), .unset]) (pc' := 13) C X101 at_12 rfl rfl rfl ?_
    refine Go.iloadN (pc' := 14) C X101 at_13 rfl rfl ?_
    refine Go.bipush (z := (22 : Int32)) (pc' := 16) C X101 at_14 rfl rfl ?_
    refine Go.icmpYes (pc' := 23) C X101 at_16 (feq (x := (25 : Int32)) (y := (22 : Int32)) (by decide)).2 (by decide) (by decide) ?_
    refine Go.iconst (z := (0 : Int32)) (pc' := 24) C X101 at_23 rfl rfl ?_
    refine Go.istoreN (Ls' := #[.val (.int p1), .val (.int (25 : Int32)), .val (.ref w25), .val (.int (0 : Int32))]) (pc' := 25) C X101 at_24 rfl rfl ?_
    refine Go.aloadN (pc' := 26) C X101 at_25 rfl rfl rfl ?_
    refine Go.callV (y := (⟨"se/bryggan/saml/EidAttribute", "isScoped", "()Z"⟩ : MethodName)) (z := (⟨"se/bryggan/saml/EidAttribute", "isScoped", "()Z"⟩ : MethodName)) (a := w25) (pc' := 29) C X101 (hw _ (List.mem_of_getElem? (i := 8) rfl)) (hw _ (List.mem_of_getElem? (i := 9) rfl)) (notFace_at C.2.1 (hw _ (List.mem_of_getElem? (i := 11) rfl))) (hw _ (List.mem_of_getElem? (i := 11) rfl)) (hw _ (List.mem_of_getElem? (i := 10) rfl)) (Exa.ext O0 E25) (by decide) (rm_isF l Z a0 hw w25 w22 h0 O0 S22 n25) (hw _ (List.mem_of_getElem? (i := 12) rfl)) (hw _ (List.mem_of_getElem? (i := 6) rfl)) e101 (argsL := []) (rest := []) (W := 0) rfl rfl pd_1 rfl (by decide) rfl (by decide) (by decide) (by decide) (by decide) at_26 rfl ?_
    intro T103 v103 L103 X103 q103
    obtain ⟨rfl, rfl, e103⟩ := q103
    have N103 := Fr.app N101 (Fr.nil _)
    refine Go.iloadN (pc' := 30) C X103 at_29 rfl rfl ?_
    refine Go.icmpNo (pc' := 33) C X103 at_30 (teq (x := (0 : Int32)) (y := (0 : Int32)) (by decide)).2 rfl ?_
    refine Go.iconst (z := (1 : Int32)) (pc' := 34) C X103 at_33 rfl rfl ?_
    refine Go.goto (pc' := 38) C X103 at_34 (by decide) (by decide) ?_
    exact Go.retN C X103 rfl at_38 (by simp) (by rw [e103]; exact ⟨rfl, N103, (Keep.refl h0 [])⟩) (by decide) (by decide)
  · rw [q0]
    refine Go.iloadN (pc' := 9) C X0 at_8 rfl rfl ?_
    refine Go.callS (y := (⟨"se/bryggan/saml/EidAttributeIsScopedPinLaw", "pick", "(I)Lse/bryggan/saml/EidAttribute;"⟩ : MethodName)) (pc' := 12) C X0 (hw _ (List.mem_of_getElem? (i := 1) rfl)) (hw _ (List.mem_of_getElem? (i := 2) rfl)) (by decide) (rm_p26 l Z a0 hw w26 h0 O0 S26) (hw _ (List.mem_of_getElem? (i := 4) rfl)) (hw _ (List.mem_of_getElem? (i := 3) rfl)) e0 (argsL := [(.int (26 : Int32))]) (rest := []) (W := 0) rfl rfl pd_0 rfl (by decide) rfl (by decide) (by decide) (by decide) (by decide) at_9 rfl ?_
    intro T105 v105 L105 X105 q105
    obtain ⟨rfl, rfl, e105⟩ := q105
    have N105 := Fr.app N0 (Fr.nil _)
    refine Go.astoreN (Ls' := #[.val (.int p1), .val (.int (26 : Int32)), .val (.ref w26), .unset]) (pc' := 13) C X105 at_12 rfl rfl rfl ?_
    refine Go.iloadN (pc' := 14) C X105 at_13 rfl rfl ?_
    refine Go.bipush (z := (22 : Int32)) (pc' := 16) C X105 at_14 rfl rfl ?_
    refine Go.icmpYes (pc' := 23) C X105 at_16 (feq (x := (26 : Int32)) (y := (22 : Int32)) (by decide)).2 (by decide) (by decide) ?_
    refine Go.iconst (z := (0 : Int32)) (pc' := 24) C X105 at_23 rfl rfl ?_
    refine Go.istoreN (Ls' := #[.val (.int p1), .val (.int (26 : Int32)), .val (.ref w26), .val (.int (0 : Int32))]) (pc' := 25) C X105 at_24 rfl rfl ?_
    refine Go.aloadN (pc' := 26) C X105 at_25 rfl rfl rfl ?_
    refine Go.callV (y := (⟨"se/bryggan/saml/EidAttribute", "isScoped", "()Z"⟩ : MethodName)) (z := (⟨"se/bryggan/saml/EidAttribute", "isScoped", "()Z"⟩ : MethodName)) (a := w26) (pc' := 29) C X105 (hw _ (List.mem_of_getElem? (i := 8) rfl)) (hw _ (List.mem_of_getElem? (i := 9) rfl)) (notFace_at C.2.1 (hw _ (List.mem_of_getElem? (i := 11) rfl))) (hw _ (List.mem_of_getElem? (i := 11) rfl)) (hw _ (List.mem_of_getElem? (i := 10) rfl)) (Exa.ext O0 E26) (by decide) (rm_isF l Z a0 hw w26 w22 h0 O0 S22 n26) (hw _ (List.mem_of_getElem? (i := 12) rfl)) (hw _ (List.mem_of_getElem? (i := 6) rfl)) e105 (argsL := []) (rest := []) (W := 0) rfl rfl pd_1 rfl (by decide) rfl (by decide) (by decide) (by decide) (by decide) at_26 rfl ?_
    intro T107 v107 L107 X107 q107
    obtain ⟨rfl, rfl, e107⟩ := q107
    have N107 := Fr.app N105 (Fr.nil _)
    refine Go.iloadN (pc' := 30) C X107 at_29 rfl rfl ?_
    refine Go.icmpNo (pc' := 33) C X107 at_30 (teq (x := (0 : Int32)) (y := (0 : Int32)) (by decide)).2 rfl ?_
    refine Go.iconst (z := (1 : Int32)) (pc' := 34) C X107 at_33 rfl rfl ?_
    refine Go.goto (pc' := 38) C X107 at_34 (by decide) (by decide) ?_
    exact Go.retN C X107 rfl at_38 (by simp) (by rw [e107]; exact ⟨rfl, N107, (Keep.refl h0 [])⟩) (by decide) (by decide)
  · rw [q0]
    refine Go.iloadN (pc' := 9) C X0 at_8 rfl rfl ?_
    refine Go.callS (y := (⟨"se/bryggan/saml/EidAttributeIsScopedPinLaw", "pick", "(I)Lse/bryggan/saml/EidAttribute;"⟩ : MethodName)) (pc' := 12) C X0 (hw _ (List.mem_of_getElem? (i := 1) rfl)) (hw _ (List.mem_of_getElem? (i := 2) rfl)) (by decide) (rm_p27 l Z a0 hw w27 h0 O0 S27) (hw _ (List.mem_of_getElem? (i := 4) rfl)) (hw _ (List.mem_of_getElem? (i := 3) rfl)) e0 (argsL := [(.int (27 : Int32))]) (rest := []) (W := 0) rfl rfl pd_0 rfl (by decide) rfl (by decide) (by decide) (by decide) (by decide) at_9 rfl ?_
    intro T109 v109 L109 X109 q109
    obtain ⟨rfl, rfl, e109⟩ := q109
    have N109 := Fr.app N0 (Fr.nil _)
    refine Go.astoreN (Ls' := #[.val (.int p1), .val (.int (27 : Int32)), .val (.ref w27), .unset]) (pc' := 13) C X109 at_12 rfl rfl rfl ?_
    refine Go.iloadN (pc' := 14) C X109 at_13 rfl rfl ?_
    refine Go.bipush (z := (22 : Int32)) (pc' := 16) C X109 at_14 rfl rfl ?_
    refine Go.icmpYes (pc' := 23) C X109 at_16 (feq (x := (27 : Int32)) (y := (22 : Int32)) (by decide)).2 (by decide) (by decide) ?_
    refine Go.iconst (z := (0 : Int32)) (pc' := 24) C X109 at_23 rfl rfl ?_
    refine Go.istoreN (Ls' := #[.val (.int p1), .val (.int (27 : Int32)), .val (.ref w27), .val (.int (0 : Int32))]) (pc' := 25) C X109 at_24 rfl rfl ?_
    refine Go.aloadN (pc' := 26) C X109 at_25 rfl rfl rfl ?_
    refine Go.callV (y := (⟨"se/bryggan/saml/EidAttribute", "isScoped", "()Z"⟩ : MethodName)) (z := (⟨"se/bryggan/saml/EidAttribute", "isScoped", "()Z"⟩ : MethodName)) (a := w27) (pc' := 29) C X109 (hw _ (List.mem_of_getElem? (i := 8) rfl)) (hw _ (List.mem_of_getElem? (i := 9) rfl)) (notFace_at C.2.1 (hw _ (List.mem_of_getElem? (i := 11) rfl))) (hw _ (List.mem_of_getElem? (i := 11) rfl)) (hw _ (List.mem_of_getElem? (i := 10) rfl)) (Exa.ext O0 E27) (by decide) (rm_isF l Z a0 hw w27 w22 h0 O0 S22 n27) (hw _ (List.mem_of_getElem? (i := 12) rfl)) (hw _ (List.mem_of_getElem? (i := 6) rfl)) e109 (argsL := []) (rest := []) (W := 0) rfl rfl pd_1 rfl (by decide) rfl (by decide) (by decide) (by decide) (by decide) at_26 rfl ?_
    intro T111 v111 L111 X111 q111
    obtain ⟨rfl, rfl, e111⟩ := q111
    have N111 := Fr.app N109 (Fr.nil _)
    refine Go.iloadN (pc' := 30) C X111 at_29 rfl rfl ?_
    refine Go.icmpNo (pc' := 33) C X111 at_30 (teq (x := (0 : Int32)) (y := (0 : Int32)) (by decide)).2 rfl ?_
    refine Go.iconst (z := (1 : Int32)) (pc' := 34) C X111 at_33 rfl rfl ?_
    refine Go.goto (pc' := 38) C X111 at_34 (by decide) (by decide) ?_
    exact Go.retN C X111 rfl at_38 (by simp) (by rw [e111]; exact ⟨rfl, N111, (Keep.refl h0 [])⟩) (by decide) (by decide)
  · rw [q0]
    refine Go.iloadN (pc' := 9) C X0 at_8 rfl rfl ?_
    refine Go.callS (y := (⟨"se/bryggan/saml/EidAttributeIsScopedPinLaw", "pick", "(I)Lse/bryggan/saml/EidAttribute;"⟩ : MethodName)) (pc' := 12) C X0 (hw _ (List.mem_of_getElem? (i := 1) rfl)) (hw _ (List.mem_of_getElem? (i := 2) rfl)) (by decide) (rm_p28 l Z a0 hw w28 h0 O0 S28) (hw _ (List.mem_of_getElem? (i := 4) rfl)) (hw _ (List.mem_of_getElem? (i := 3) rfl)) e0 (argsL := [(.int (28 : Int32))]) (rest := []) (W := 0) rfl rfl pd_0 rfl (by decide) rfl (by decide) (by decide) (by decide) (by decide) at_9 rfl ?_
    intro T113 v113 L113 X113 q113
    obtain ⟨rfl, rfl, e113⟩ := q113
    have N113 := Fr.app N0 (Fr.nil _)
    refine Go.astoreN (Ls' := #[.val (.int p1), .val (.int (28 : Int32)), .val (.ref w28), .unset]) (pc' := 13) C X113 at_12 rfl rfl rfl ?_
    refine Go.iloadN (pc' := 14) C X113 at_13 rfl rfl ?_
    refine Go.bipush (z := (22 : Int32)) (pc' := 16) C X113 at_14 rfl rfl ?_
    refine Go.icmpYes (pc' := 23) C X113 at_16 (feq (x := (28 : Int32)) (y := (22 : Int32)) (by decide)).2 (by decide) (by decide) ?_
    refine Go.iconst (z := (0 : Int32)) (pc' := 24) C X113 at_23 rfl rfl ?_
    refine Go.istoreN (Ls' := #[.val (.int p1), .val (.int (28 : Int32)), .val (.ref w28), .val (.int (0 : Int32))]) (pc' := 25) C X113 at_24 rfl rfl ?_
    refine Go.aloadN (pc' := 26) C X113 at_25 rfl rfl rfl ?_
    refine Go.callV (y := (⟨"se/bryggan/saml/EidAttribute", "isScoped", "()Z"⟩ : MethodName)) (z := (⟨"se/bryggan/saml/EidAttribute", "isScoped", "()Z"⟩ : MethodName)) (a := w28) (pc' := 29) C X113 (hw _ (List.mem_of_getElem? (i := 8) rfl)) (hw _ (List.mem_of_getElem? (i := 9) rfl)) (notFace_at C.2.1 (hw _ (List.mem_of_getElem? (i := 11) rfl))) (hw _ (List.mem_of_getElem? (i := 11) rfl)) (hw _ (List.mem_of_getElem? (i := 10) rfl)) (Exa.ext O0 E28) (by decide) (rm_isF l Z a0 hw w28 w22 h0 O0 S22 n28) (hw _ (List.mem_of_getElem? (i := 12) rfl)) (hw _ (List.mem_of_getElem? (i := 6) rfl)) e113 (argsL := []) (rest := []) (W := 0) rfl rfl pd_1 rfl (by decide) rfl (by decide) (by decide) (by decide) (by decide) at_26 rfl ?_
    intro T115 v115 L115 X115 q115
    obtain ⟨rfl, rfl, e115⟩ := q115
    have N115 := Fr.app N113 (Fr.nil _)
    refine Go.iloadN (pc' := 30) C X115 at_29 rfl rfl ?_
    refine Go.icmpNo (pc' := 33) C X115 at_30 (teq (x := (0 : Int32)) (y := (0 : Int32)) (by decide)).2 rfl ?_
    refine Go.iconst (z := (1 : Int32)) (pc' := 34) C X115 at_33 rfl rfl ?_
    refine Go.goto (pc' := 38) C X115 at_34 (by decide) (by decide) ?_
    exact Go.retN C X115 rfl at_38 (by simp) (by rw [e115]; exact ⟨rfl, N115, (Keep.refl h0 [])⟩) (by decide) (by decide)
  · rw [q0]
    refine Go.iloadN (pc' := 9) C X0 at_8 rfl rfl ?_
    refine Go.callS (y := (⟨"se/bryggan/saml/EidAttributeIsScopedPinLaw", "pick", "(I)Lse/bryggan/saml/EidAttribute;"⟩ : MethodName)) (pc' := 12) C X0 (hw _ (List.mem_of_getElem? (i := 1) rfl)) (hw _ (List.mem_of_getElem? (i := 2) rfl)) (by decide) (rm_p29 l Z a0 hw w29 h0 O0 S29) (hw _ (List.mem_of_getElem? (i := 4) rfl)) (hw _ (List.mem_of_getElem? (i := 3) rfl)) e0 (argsL := [(.int (29 : Int32))]) (rest := []) (W := 0) rfl rfl pd_0 rfl (by decide) rfl (by decide) (by decide) (by decide) (by decide) at_9 rfl ?_
    intro T117 v117 L117 X117 q117
    obtain ⟨rfl, rfl, e117⟩ := q117
    have N117 := Fr.app N0 (Fr.nil _)
    refine Go.astoreN (Ls' := #[.val (.int p1), .val (.int (29 : Int32)), .val (.ref w29), .unset]) (pc' := 13) C X117 at_12 rfl rfl rfl ?_
    refine Go.iloadN (pc' := 14) C X117 at_13 rfl rfl ?_
    refine Go.bipush (z := (22 : Int32)) (pc' := 16) C X117 at_14 rfl rfl ?_
    refine Go.icmpYes (pc' := 23) C X117 at_16 (feq (x := (29 : Int32)) (y := (22 : Int32)) (by decide)).2 (by decide) (by decide) ?_
    refine Go.iconst (z := (0 : Int32)) (pc' := 24) C X117 at_23 rfl rfl ?_
    refine Go.istoreN (Ls' := #[.val (.int p1), .val (.int (29 : Int32)), .val (.ref w29), .val (.int (0 : Int32))]) (pc' := 25) C X117 at_24 rfl rfl ?_
    refine Go.aloadN (pc' := 26) C X117 at_25 rfl rfl rfl ?_
    refine Go.callV (y := (⟨"se/bryggan/saml/EidAttribute", "isScoped", "()Z"⟩ : MethodName)) (z := (⟨"se/bryggan/saml/EidAttribute", "isScoped", "()Z"⟩ : MethodName)) (a := w29) (pc' := 29) C X117 (hw _ (List.mem_of_getElem? (i := 8) rfl)) (hw _ (List.mem_of_getElem? (i := 9) rfl)) (notFace_at C.2.1 (hw _ (List.mem_of_getElem? (i := 11) rfl))) (hw _ (List.mem_of_getElem? (i := 11) rfl)) (hw _ (List.mem_of_getElem? (i := 10) rfl)) (Exa.ext O0 E29) (by decide) (rm_isF l Z a0 hw w29 w22 h0 O0 S22 n29) (hw _ (List.mem_of_getElem? (i := 12) rfl)) (hw _ (List.mem_of_getElem? (i := 6) rfl)) e117 (argsL := []) (rest := []) (W := 0) rfl rfl pd_1 rfl (by decide) rfl (by decide) (by decide) (by decide) (by decide) at_26 rfl ?_
    intro T119 v119 L119 X119 q119
    obtain ⟨rfl, rfl, e119⟩ := q119
    have N119 := Fr.app N117 (Fr.nil _)
    refine Go.iloadN (pc' := 30) C X119 at_29 rfl rfl ?_
    refine Go.icmpNo (pc' := 33) C X119 at_30 (teq (x := (0 : Int32)) (y := (0 : Int32)) (by decide)).2 rfl ?_
    refine Go.iconst (z := (1 : Int32)) (pc' := 34) C X119 at_33 rfl rfl ?_
    refine Go.goto (pc' := 38) C X119 at_34 (by decide) (by decide) ?_
    exact Go.retN C X119 rfl at_38 (by simp) (by rw [e119]; exact ⟨rfl, N119, (Keep.refl h0 [])⟩) (by decide) (by decide)
  · rw [q0]
    refine Go.iloadN (pc' := 9) C X0 at_8 rfl rfl ?_
    refine Go.callS (y := (⟨"se/bryggan/saml/EidAttributeIsScopedPinLaw", "pick", "(I)Lse/bryggan/saml/EidAttribute;"⟩ : MethodName)) (pc' := 12) C X0 (hw _ (List.mem_of_getElem? (i := 1) rfl)) (hw _ (List.mem_of_getElem? (i := 2) rfl)) (by decide) (rm_p30 l Z a0 hw w30 h0 O0 S30) (hw _ (List.mem_of_getElem? (i := 4) rfl)) (hw _ (List.mem_of_getElem? (i := 3) rfl)) e0 (argsL := [(.int (30 : Int32))]) (rest := []) (W := 0) rfl rfl pd_0 rfl (by decide) rfl (by decide) (by decide) (by decide) (by decide) at_9 rfl ?_
    intro T121 v121 L121 X121 q121
    obtain ⟨rfl, rfl, e121⟩ := q121
    have N121 := Fr.app N0 (Fr.nil _)
    refine Go.astoreN (Ls' := #[.val (.int p1), .val (.int (30 : Int32)), .val (.ref w30), .unset]) (pc' := 13) C X121 at_12 rfl rfl rfl ?_
    refine Go.iloadN (pc' := 14) C X121 at_13 rfl rfl ?_
    refine Go.bipush (z := (22 : Int32)) (pc' := 16) C X121 at_14 rfl rfl ?_
    refine Go.icmpYes (pc' := 23) C X121 at_16 (feq (x := (30 : Int32)) (y := (22 : Int32)) (by decide)).2 (by decide) (by decide) ?_
    refine Go.iconst (z := (0 : Int32)) (pc' := 24) C X121 at_23 rfl rfl ?_
    refine Go.istoreN (Ls' := #[.val (.int p1), .val (.int (30 : Int32)), .val (.ref w30), .val (.int (0 : Int32))]) (pc' := 25) C X121 at_24 rfl rfl ?_
    refine Go.aloadN (pc' := 26) C X121 at_25 rfl rfl rfl ?_
    refine Go.callV (y := (⟨"se/bryggan/saml/EidAttribute", "isScoped", "()Z"⟩ : MethodName)) (z := (⟨"se/bryggan/saml/EidAttribute", "isScoped", "()Z"⟩ : MethodName)) (a := w30) (pc' := 29) C X121 (hw _ (List.mem_of_getElem? (i := 8) rfl)) (hw _ (List.mem_of_getElem? (i := 9) rfl)) (notFace_at C.2.1 (hw _ (List.mem_of_getElem? (i := 11) rfl))) (hw _ (List.mem_of_getElem? (i := 11) rfl)) (hw _ (List.mem_of_getElem? (i := 10) rfl)) (Exa.ext O0 E30) (by decide) (rm_isF l Z a0 hw w30 w22 h0 O0 S22 n30) (hw _ (List.mem_of_getElem? (i := 12) rfl)) (hw _ (List.mem_of_getElem? (i := 6) rfl)) e121 (argsL := []) (rest := []) (W := 0) rfl rfl pd_1 rfl (by decide) rfl (by decide) (by decide) (by decide) (by decide) at_26 rfl ?_
    intro T123 v123 L123 X123 q123
    obtain ⟨rfl, rfl, e123⟩ := q123
    have N123 := Fr.app N121 (Fr.nil _)
    refine Go.iloadN (pc' := 30) C X123 at_29 rfl rfl ?_
    refine Go.icmpNo (pc' := 33) C X123 at_30 (teq (x := (0 : Int32)) (y := (0 : Int32)) (by decide)).2 rfl ?_
    refine Go.iconst (z := (1 : Int32)) (pc' := 34) C X123 at_33 rfl rfl ?_
    refine Go.goto (pc' := 38) C X123 at_34 (by decide) (by decide) ?_
    exact Go.retN C X123 rfl at_38 (by simp) (by rw [e123]; exact ⟨rfl, N123, (Keep.refl h0 [])⟩) (by decide) (by decide)
  · rw [q0]
    refine Go.iloadN (pc' := 9) C X0 at_8 rfl rfl ?_
    refine Go.callS (y := (⟨"se/bryggan/saml/EidAttributeIsScopedPinLaw", "pick", "(I)Lse/bryggan/saml/EidAttribute;"⟩ : MethodName)) (pc' := 12) C X0 (hw _ (List.mem_of_getElem? (i := 1) rfl)) (hw _ (List.mem_of_getElem? (i := 2) rfl)) (by decide) (rm_p31 l Z a0 hw w31 h0 O0 S31) (hw _ (List.mem_of_getElem? (i := 4) rfl)) (hw _ (List.mem_of_getElem? (i := 3) rfl)) e0 (argsL := [(.int (31 : Int32))]) (rest := []) (W := 0) rfl rfl pd_0 rfl (by decide) rfl (by decide) (by decide) (by decide) (by decide) at_9 rfl ?_
    intro T125 v125 L125 X125 q125
    obtain ⟨rfl, rfl, e125⟩ := q125
    have N125 := Fr.app N0 (Fr.nil _)
    refine Go.astoreN (Ls' := #[.val (.int p1), .val (.int (31 : Int32)), .val (.ref w31), .unset]) (pc' := 13) C X125 at_12 rfl rfl rfl ?_
    refine Go.iloadN (pc' := 14) C X125 at_13 rfl rfl ?_
    refine Go.bipush (z := (22 : Int32)) (pc' := 16) C X125 at_14 rfl rfl ?_
    refine Go.icmpYes (pc' := 23) C X125 at_16 (feq (x := (31 : Int32)) (y := (22 : Int32)) (by decide)).2 (by decide) (by decide) ?_
    refine Go.iconst (z := (0 : Int32)) (pc' := 24) C X125 at_23 rfl rfl ?_
    refine Go.istoreN (Ls' := #[.val (.int p1), .val (.int (31 : Int32)), .val (.ref w31), .val (.int (0 : Int32))]) (pc' := 25) C X125 at_24 rfl rfl ?_
    refine Go.aloadN (pc' := 26) C X125 at_25 rfl rfl rfl ?_
    refine Go.callV (y := (⟨"se/bryggan/saml/EidAttribute", "isScoped", "()Z"⟩ : MethodName)) (z := (⟨"se/bryggan/saml/EidAttribute", "isScoped", "()Z"⟩ : MethodName)) (a := w31) (pc' := 29) C X125 (hw _ (List.mem_of_getElem? (i := 8) rfl)) (hw _ (List.mem_of_getElem? (i := 9) rfl)) (notFace_at C.2.1 (hw _ (List.mem_of_getElem? (i := 11) rfl))) (hw _ (List.mem_of_getElem? (i := 11) rfl)) (hw _ (List.mem_of_getElem? (i := 10) rfl)) (Exa.ext O0 E31) (by decide) (rm_isF l Z a0 hw w31 w22 h0 O0 S22 n31) (hw _ (List.mem_of_getElem? (i := 12) rfl)) (hw _ (List.mem_of_getElem? (i := 6) rfl)) e125 (argsL := []) (rest := []) (W := 0) rfl rfl pd_1 rfl (by decide) rfl (by decide) (by decide) (by decide) (by decide) at_26 rfl ?_
    intro T127 v127 L127 X127 q127
    obtain ⟨rfl, rfl, e127⟩ := q127
    have N127 := Fr.app N125 (Fr.nil _)
    refine Go.iloadN (pc' := 30) C X127 at_29 rfl rfl ?_
    refine Go.icmpNo (pc' := 33) C X127 at_30 (teq (x := (0 : Int32)) (y := (0 : Int32)) (by decide)).2 rfl ?_
    refine Go.iconst (z := (1 : Int32)) (pc' := 34) C X127 at_33 rfl rfl ?_
    refine Go.goto (pc' := 38) C X127 at_34 (by decide) (by decide) ?_
    exact Go.retN C X127 rfl at_38 (by simp) (by rw [e127]; exact ⟨rfl, N127, (Keep.refl h0 [])⟩) (by decide) (by decide)
  · rw [q0]
    refine Go.iloadN (pc' := 9) C X0 at_8 rfl rfl ?_
    refine Go.callS (y := (⟨"se/bryggan/saml/EidAttributeIsScopedPinLaw", "pick", "(I)Lse/bryggan/saml/EidAttribute;"⟩ : MethodName)) (pc' := 12) C X0 (hw _ (List.mem_of_getElem? (i := 1) rfl)) (hw _ (List.mem_of_getElem? (i := 2) rfl)) (by decide) (rm_p32 l Z a0 hw w32 h0 O0 S32) (hw _ (List.mem_of_getElem? (i := 4) rfl)) (hw _ (List.mem_of_getElem? (i := 3) rfl)) e0 (argsL := [(.int (32 : Int32))]) (rest := []) (W := 0) rfl rfl pd_0 rfl (by decide) rfl (by decide) (by decide) (by decide) (by decide) at_9 rfl ?_
    intro T129 v129 L129 X129 q129
    obtain ⟨rfl, rfl, e129⟩ := q129
    have N129 := Fr.app N0 (Fr.nil _)
    refine Go.astoreN (Ls' := #[.val (.int p1), .val (.int (32 : Int32)), .val (.ref w32), .unset]) (pc' := 13) C X129 at_12 rfl rfl rfl ?_
    refine Go.iloadN (pc' := 14) C X129 at_13 rfl rfl ?_
    refine Go.bipush (z := (22 : Int32)) (pc' := 16) C X129 at_14 rfl rfl ?_
    refine Go.icmpYes (pc' := 23) C X129 at_16 (feq (x := (32 : Int32)) (y := (22 : Int32)) (by decide)).2 (by decide) (by decide) ?_
    refine Go.iconst (z := (0 : Int32)) (pc' := 24) C X129 at_23 rfl rfl ?_
    refine Go.istoreN (Ls' := #[.val (.int p1), .val (.int (32 : Int32)), .val (.ref w32), .val (.int (0 : Int32))]) (pc' := 25) C X129 at_24 rfl rfl ?_
    refine Go.aloadN (pc' := 26) C X129 at_25 rfl rfl rfl ?_
    refine Go.callV (y := (⟨"se/bryggan/saml/EidAttribute", "isScoped", "()Z"⟩ : MethodName)) (z := (⟨"se/bryggan/saml/EidAttribute", "isScoped", "()Z"⟩ : MethodName)) (a := w32) (pc' := 29) C X129 (hw _ (List.mem_of_getElem? (i := 8) rfl)) (hw _ (List.mem_of_getElem? (i := 9) rfl)) (notFace_at C.2.1 (hw _ (List.mem_of_getElem? (i := 11) rfl))) (hw _ (List.mem_of_getElem? (i := 11) rfl)) (hw _ (List.mem_of_getElem? (i := 10) rfl)) (Exa.ext O0 E32) (by decide) (rm_isF l Z a0 hw w32 w22 h0 O0 S22 n32) (hw _ (List.mem_of_getElem? (i := 12) rfl)) (hw _ (List.mem_of_getElem? (i := 6) rfl)) e129 (argsL := []) (rest := []) (W := 0) rfl rfl pd_1 rfl (by decide) rfl (by decide) (by decide) (by decide) (by decide) at_26 rfl ?_
    intro T131 v131 L131 X131 q131
    obtain ⟨rfl, rfl, e131⟩ := q131
    have N131 := Fr.app N129 (Fr.nil _)
    refine Go.iloadN (pc' := 30) C X131 at_29 rfl rfl ?_
    refine Go.icmpNo (pc' := 33) C X131 at_30 (teq (x := (0 : Int32)) (y := (0 : Int32)) (by decide)).2 rfl ?_
    refine Go.iconst (z := (1 : Int32)) (pc' := 34) C X131 at_33 rfl rfl ?_
    refine Go.goto (pc' := 38) C X131 at_34 (by decide) (by decide) ?_
    exact Go.retN C X131 rfl at_38 (by simp) (by rw [e131]; exact ⟨rfl, N131, (Keep.refl h0 [])⟩) (by decide) (by decide)
  · rw [q0]
    refine Go.iloadN (pc' := 9) C X0 at_8 rfl rfl ?_
    refine Go.callS (y := (⟨"se/bryggan/saml/EidAttributeIsScopedPinLaw", "pick", "(I)Lse/bryggan/saml/EidAttribute;"⟩ : MethodName)) (pc' := 12) C X0 (hw _ (List.mem_of_getElem? (i := 1) rfl)) (hw _ (List.mem_of_getElem? (i := 2) rfl)) (by decide) (rm_p33 l Z a0 hw w33 h0 O0 S33) (hw _ (List.mem_of_getElem? (i := 4) rfl)) (hw _ (List.mem_of_getElem? (i := 3) rfl)) e0 (argsL := [(.int (33 : Int32))]) (rest := []) (W := 0) rfl rfl pd_0 rfl (by decide) rfl (by decide) (by decide) (by decide) (by decide) at_9 rfl ?_
    intro T133 v133 L133 X133 q133
    obtain ⟨rfl, rfl, e133⟩ := q133
    have N133 := Fr.app N0 (Fr.nil _)
    refine Go.astoreN (Ls' := #[.val (.int p1), .val (.int (33 : Int32)), .val (.ref w33), .unset]) (pc' := 13) C X133 at_12 rfl rfl rfl ?_
    refine Go.iloadN (pc' := 14) C X133 at_13 rfl rfl ?_
    refine Go.bipush (z := (22 : Int32)) (pc' := 16) C X133 at_14 rfl rfl ?_
    refine Go.icmpYes (pc' := 23) C X133 at_16 (feq (x := (33 : Int32)) (y := (22 : Int32)) (by decide)).2 (by decide) (by decide) ?_
    refine Go.iconst (z := (0 : Int32)) (pc' := 24) C X133 at_23 rfl rfl ?_
    refine Go.istoreN (Ls' := #[.val (.int p1), .val (.int (33 : Int32)), .val (.ref w33), .val (.int (0 : Int32))]) (pc' := 25) C X133 at_24 rfl rfl ?_
    refine Go.aloadN (pc' := 26) C X133 at_25 rfl rfl rfl ?_
    refine Go.callV (y := (⟨"se/bryggan/saml/EidAttribute", "isScoped", "()Z"⟩ : MethodName)) (z := (⟨"se/bryggan/saml/EidAttribute", "isScoped", "()Z"⟩ : MethodName)) (a := w33) (pc' := 29) C X133 (hw _ (List.mem_of_getElem? (i := 8) rfl)) (hw _ (List.mem_of_getElem? (i := 9) rfl)) (notFace_at C.2.1 (hw _ (List.mem_of_getElem? (i := 11) rfl))) (hw _ (List.mem_of_getElem? (i := 11) rfl)) (hw _ (List.mem_of_getElem? (i := 10) rfl)) (Exa.ext O0 E33) (by decide) (rm_isF l Z a0 hw w33 w22 h0 O0 S22 n33) (hw _ (List.mem_of_getElem? (i := 12) rfl)) (hw _ (List.mem_of_getElem? (i := 6) rfl)) e133 (argsL := []) (rest := []) (W := 0) rfl rfl pd_1 rfl (by decide) rfl (by decide) (by decide) (by decide) (by decide) at_26 rfl ?_
    intro T135 v135 L135 X135 q135
    obtain ⟨rfl, rfl, e135⟩ := q135
    have N135 := Fr.app N133 (Fr.nil _)
    refine Go.iloadN (pc' := 30) C X135 at_29 rfl rfl ?_
    refine Go.icmpNo (pc' := 33) C X135 at_30 (teq (x := (0 : Int32)) (y := (0 : Int32)) (by decide)).2 rfl ?_
    refine Go.iconst (z := (1 : Int32)) (pc' := 34) C X135 at_33 rfl rfl ?_
    refine Go.goto (pc' := 38) C X135 at_34 (by decide) (by decide) ?_
    exact Go.retN C X135 rfl at_38 (by simp) (by rw [e135]; exact ⟨rfl, N135, (Keep.refl h0 [])⟩) (by decide) (by decide)
  · rw [q0]
    refine Go.iloadN (pc' := 9) C X0 at_8 rfl rfl ?_
    refine Go.callS (y := (⟨"se/bryggan/saml/EidAttributeIsScopedPinLaw", "pick", "(I)Lse/bryggan/saml/EidAttribute;"⟩ : MethodName)) (pc' := 12) C X0 (hw _ (List.mem_of_getElem? (i := 1) rfl)) (hw _ (List.mem_of_getElem? (i := 2) rfl)) (by decide) (rm_p34 l Z a0 hw w34 h0 O0 S34) (hw _ (List.mem_of_getElem? (i := 4) rfl)) (hw _ (List.mem_of_getElem? (i := 3) rfl)) e0 (argsL := [(.int (34 : Int32))]) (rest := []) (W := 0) rfl rfl pd_0 rfl (by decide) rfl (by decide) (by decide) (by decide) (by decide) at_9 rfl ?_
    intro T137 v137 L137 X137 q137
    obtain ⟨rfl, rfl, e137⟩ := q137
    have N137 := Fr.app N0 (Fr.nil _)
    refine Go.astoreN (Ls' := #[.val (.int p1), .val (.int (34 : Int32)), .val (.ref w34), .unset]) (pc' := 13) C X137 at_12 rfl rfl rfl ?_
    refine Go.iloadN (pc' := 14) C X137 at_13 rfl rfl ?_
    refine Go.bipush (z := (22 : Int32)) (pc' := 16) C X137 at_14 rfl rfl ?_
    refine Go.icmpYes (pc' := 23) C X137 at_16 (feq (x := (34 : Int32)) (y := (22 : Int32)) (by decide)).2 (by decide) (by decide) ?_
    refine Go.iconst (z := (0 : Int32)) (pc' := 24) C X137 at_23 rfl rfl ?_
    refine Go.istoreN (Ls' := #[.val (.int p1), .val (.int (34 : Int32)), .val (.ref w34), .val (.int (0 : Int32))]) (pc' := 25) C X137 at_24 rfl rfl ?_
    refine Go.aloadN (pc' := 26) C X137 at_25 rfl rfl rfl ?_
    refine Go.callV (y := (⟨"se/bryggan/saml/EidAttribute", "isScoped", "()Z"⟩ : MethodName)) (z := (⟨"se/bryggan/saml/EidAttribute", "isScoped", "()Z"⟩ : MethodName)) (a := w34) (pc' := 29) C X137 (hw _ (List.mem_of_getElem? (i := 8) rfl)) (hw _ (List.mem_of_getElem? (i := 9) rfl)) (notFace_at C.2.1 (hw _ (List.mem_of_getElem? (i := 11) rfl))) (hw _ (List.mem_of_getElem? (i := 11) rfl)) (hw _ (List.mem_of_getElem? (i := 10) rfl)) (Exa.ext O0 E34) (by decide) (rm_isF l Z a0 hw w34 w22 h0 O0 S22 n34) (hw _ (List.mem_of_getElem? (i := 12) rfl)) (hw _ (List.mem_of_getElem? (i := 6) rfl)) e137 (argsL := []) (rest := []) (W := 0) rfl rfl pd_1 rfl (by decide) rfl (by decide) (by decide) (by decide) (by decide) at_26 rfl ?_
    intro T139 v139 L139 X139 q139
    obtain ⟨rfl, rfl, e139⟩ := q139
    have N139 := Fr.app N137 (Fr.nil _)
    refine Go.iloadN (pc' := 30) C X139 at_29 rfl rfl ?_
    refine Go.icmpNo (pc' := 33) C X139 at_30 (teq (x := (0 : Int32)) (y := (0 : Int32)) (by decide)).2 rfl ?_
    refine Go.iconst (z := (1 : Int32)) (pc' := 34) C X139 at_33 rfl rfl ?_
    refine Go.goto (pc' := 38) C X139 at_34 (by decide) (by decide) ?_
    exact Go.retN C X139 rfl at_38 (by simp) (by rw [e139]; exact ⟨rfl, N139, (Keep.refl h0 [])⟩) (by decide) (by decide)
  · rw [q0]
    refine Go.iloadN (pc' := 9) C X0 at_8 rfl rfl ?_
    refine Go.callS (y := (⟨"se/bryggan/saml/EidAttributeIsScopedPinLaw", "pick", "(I)Lse/bryggan/saml/EidAttribute;"⟩ : MethodName)) (pc' := 12) C X0 (hw _ (List.mem_of_getElem? (i := 1) rfl)) (hw _ (List.mem_of_getElem? (i := 2) rfl)) (by decide) (rm_p35 l Z a0 hw w35 h0 O0 S35) (hw _ (List.mem_of_getElem? (i := 4) rfl)) (hw _ (List.mem_of_getElem? (i := 3) rfl)) e0 (argsL := [(.int (35 : Int32))]) (rest := []) (W := 0) rfl rfl pd_0 rfl (by decide) rfl (by decide) (by decide) (by decide) (by decide) at_9 rfl ?_
    intro T141 v141 L141 X141 q141
    obtain ⟨rfl, rfl, e141⟩ := q141
    have N141 := Fr.app N0 (Fr.nil _)
    refine Go.astoreN (Ls' := #[.val (.int p1), .val (.int (35 : Int32)), .val (.ref w35), .unset]) (pc' := 13) C X141 at_12 rfl rfl rfl ?_
    refine Go.iloadN (pc' := 14) C X141 at_13 rfl rfl ?_
    refine Go.bipush (z := (22 : Int32)) (pc' := 16) C X141 at_14 rfl rfl ?_
    refine Go.icmpYes (pc' := 23) C X141 at_16 (feq (x := (35 : Int32)) (y := (22 : Int32)) (by decide)).2 (by decide) (by decide) ?_
    refine Go.iconst (z := (0 : Int32)) (pc' := 24) C X141 at_23 rfl rfl ?_
    refine Go.istoreN (Ls' := #[.val (.int p1), .val (.int (35 : Int32)), .val (.ref w35), .val (.int (0 : Int32))]) (pc' := 25) C X141 at_24 rfl rfl ?_
    refine Go.aloadN (pc' := 26) C X141 at_25 rfl rfl rfl ?_
    refine Go.callV (y := (⟨"se/bryggan/saml/EidAttribute", "isScoped", "()Z"⟩ : MethodName)) (z := (⟨"se/bryggan/saml/EidAttribute", "isScoped", "()Z"⟩ : MethodName)) (a := w35) (pc' := 29) C X141 (hw _ (List.mem_of_getElem? (i := 8) rfl)) (hw _ (List.mem_of_getElem? (i := 9) rfl)) (notFace_at C.2.1 (hw _ (List.mem_of_getElem? (i := 11) rfl))) (hw _ (List.mem_of_getElem? (i := 11) rfl)) (hw _ (List.mem_of_getElem? (i := 10) rfl)) (Exa.ext O0 E35) (by decide) (rm_isF l Z a0 hw w35 w22 h0 O0 S22 n35) (hw _ (List.mem_of_getElem? (i := 12) rfl)) (hw _ (List.mem_of_getElem? (i := 6) rfl)) e141 (argsL := []) (rest := []) (W := 0) rfl rfl pd_1 rfl (by decide) rfl (by decide) (by decide) (by decide) (by decide) at_26 rfl ?_
    intro T143 v143 L143 X143 q143
    obtain ⟨rfl, rfl, e143⟩ := q143
    have N143 := Fr.app N141 (Fr.nil _)
    refine Go.iloadN (pc' := 30) C X143 at_29 rfl rfl ?_
    refine Go.icmpNo (pc' := 33) C X143 at_30 (teq (x := (0 : Int32)) (y := (0 : Int32)) (by decide)).2 rfl ?_
    refine Go.iconst (z := (1 : Int32)) (pc' := 34) C X143 at_33 rfl rfl ?_
    refine Go.goto (pc' := 38) C X143 at_34 (by decide) (by decide) ?_
    exact Go.retN C X143 rfl at_38 (by simp) (by rw [e143]; exact ⟨rfl, N143, (Keep.refl h0 [])⟩) (by decide) (by decide)
  · rw [q0]
    refine Go.iloadN (pc' := 9) C X0 at_8 rfl rfl ?_
    refine Go.callS (y := (⟨"se/bryggan/saml/EidAttributeIsScopedPinLaw", "pick", "(I)Lse/bryggan/saml/EidAttribute;"⟩ : MethodName)) (pc' := 12) C X0 (hw _ (List.mem_of_getElem? (i := 1) rfl)) (hw _ (List.mem_of_getElem? (i := 2) rfl)) (by decide) (rm_p36 l Z a0 hw w36 h0 O0 S36) (hw _ (List.mem_of_getElem? (i := 4) rfl)) (hw _ (List.mem_of_getElem? (i := 3) rfl)) e0 (argsL := [(.int (36 : Int32))]) (rest := []) (W := 0) rfl rfl pd_0 rfl (by decide) rfl (by decide) (by decide) (by decide) (by decide) at_9 rfl ?_
    intro T145 v145 L145 X145 q145
    obtain ⟨rfl, rfl, e145⟩ := q145
    have N145 := Fr.app N0 (Fr.nil _)
    refine Go.astoreN (Ls' := #[.val (.int p1), .val (.int (36 : Int32)), .val (.ref w36), .unset]) (pc' := 13) C X145 at_12 rfl rfl rfl ?_
    refine Go.iloadN (pc' := 14) C X145 at_13 rfl rfl ?_
    refine Go.bipush (z := (22 : Int32)) (pc' := 16) C X145 at_14 rfl rfl ?_
    refine Go.icmpYes (pc' := 23) C X145 at_16 (feq (x := (36 : Int32)) (y := (22 : Int32)) (by decide)).2 (by decide) (by decide) ?_
    refine Go.iconst (z := (0 : Int32)) (pc' := 24) C X145 at_23 rfl rfl ?_
    refine Go.istoreN (Ls' := #[.val (.int p1), .val (.int (36 : Int32)), .val (.ref w36), .val (.int (0 : Int32))]) (pc' := 25) C X145 at_24 rfl rfl ?_
    refine Go.aloadN (pc' := 26) C X145 at_25 rfl rfl rfl ?_
    refine Go.callV (y := (⟨"se/bryggan/saml/EidAttribute", "isScoped", "()Z"⟩ : MethodName)) (z := (⟨"se/bryggan/saml/EidAttribute", "isScoped", "()Z"⟩ : MethodName)) (a := w36) (pc' := 29) C X145 (hw _ (List.mem_of_getElem? (i := 8) rfl)) (hw _ (List.mem_of_getElem? (i := 9) rfl)) (notFace_at C.2.1 (hw _ (List.mem_of_getElem? (i := 11) rfl))) (hw _ (List.mem_of_getElem? (i := 11) rfl)) (hw _ (List.mem_of_getElem? (i := 10) rfl)) (Exa.ext O0 E36) (by decide) (rm_isF l Z a0 hw w36 w22 h0 O0 S22 n36) (hw _ (List.mem_of_getElem? (i := 12) rfl)) (hw _ (List.mem_of_getElem? (i := 6) rfl)) e145 (argsL := []) (rest := []) (W := 0) rfl rfl pd_1 rfl (by decide) rfl (by decide) (by decide) (by decide) (by decide) at_26 rfl ?_
    intro T147 v147 L147 X147 q147
    obtain ⟨rfl, rfl, e147⟩ := q147
    have N147 := Fr.app N145 (Fr.nil _)
    refine Go.iloadN (pc' := 30) C X147 at_29 rfl rfl ?_
    refine Go.icmpNo (pc' := 33) C X147 at_30 (teq (x := (0 : Int32)) (y := (0 : Int32)) (by decide)).2 rfl ?_
    refine Go.iconst (z := (1 : Int32)) (pc' := 34) C X147 at_33 rfl rfl ?_
    refine Go.goto (pc' := 38) C X147 at_34 (by decide) (by decide) ?_
    exact Go.retN C X147 rfl at_38 (by simp) (by rw [e147]; exact ⟨rfl, N147, (Keep.refl h0 [])⟩) (by decide) (by decide)
set_option maxRecDepth 65536 in
set_option maxHeartbeats 40000000 in
theorem comes_1 {Post : Tables → Env → Array Value → State → Outcome → State → Prop} (hpost : ∀ tb e args s v u, (limb_1_1.after args s (.returned v) u = true ∧ limb_1_2.after args s (.returned v) u = true ∧ True) → FrameEnd s (.returned v) u (Jvm.fieldLocs frame_1_writes args s ++ Jvm.arrayLocs frame_1_arrays args s ++ Jvm.staticLocs frame_1_statics s) 0 0 → Post tb e args s (.returned v) u) :
    ArmFor flags0 classFile x code maxLocals ret World_1 tables_1 room_1 Calls_1 rest_1 Pre_1 Post := by
  intro l hfl _ _ p e ha hc hk s m args below hf hA hF happ hP
  obtain ⟨hcalls, hrest, hpre⟩ := hP
  obtain ⟨-, -, -, hnamed, -, -, -, hat⟩ := (Spec.applies_iff hf).mp happ
  obtain ⟨hg, hn⟩ := and_e (Cond.before_iff.mp (show (Jvm.Cond.and given_1 narrow_1).before args s = true from hpre))
  obtain ⟨g1, g2⟩ := and_e hg
  obtain ⟨g3, g4⟩ := and_e hn
  obtain ⟨g5, g6⟩ := and_e g4
  obtain ⟨g7, g8⟩ := and_e g6
  obtain ⟨g9, g10⟩ := and_e g8
  obtain ⟨g11, g12⟩ := and_e g10
  obtain ⟨g13, g14⟩ := and_e g12
  obtain ⟨g15, g16⟩ := and_e g14
  obtain ⟨g17, g18⟩ := and_e g16
  obtain ⟨g19, g20⟩ := and_e g18
  obtain ⟨g21, g22⟩ := and_e g20
  obtain ⟨g23, g24⟩ := and_e g22
  obtain ⟨g25, g26⟩ := and_e g24
  obtain ⟨g27, g28⟩ := and_e g26
  obtain ⟨g29, g30⟩ := and_e g28
  obtain ⟨g31, g32⟩ := and_e g30
  obtain ⟨g33, g34⟩ := and_e g32
  obtain ⟨g35, g36⟩ := and_e g34
  obtain ⟨g37, g38⟩ := and_e g36
  obtain ⟨g39, g40⟩ := and_e g38
  obtain ⟨g41, g42⟩ := and_e g40
  obtain ⟨g43, g44⟩ := and_e g42
  obtain ⟨g45, g46⟩ := and_e g44
  obtain ⟨g47, g48⟩ := and_e g46
  obtain ⟨g49, g50⟩ := and_e g48
  obtain ⟨g51, g52⟩ := and_e g50
  obtain ⟨g53, g54⟩ := and_e g52
  obtain ⟨g55, g56⟩ := and_e g54
  obtain ⟨g57, g58⟩ := and_e g56
  obtain ⟨g59, g60⟩ := and_e g58
  obtain ⟨g61, g62⟩ := and_e g60
  obtain ⟨g63, g64⟩ := and_e g62
  obtain ⟨g65, g66⟩ := and_e g64
  obtain ⟨g67, g68⟩ := and_e g66
  obtain ⟨g69, g70⟩ := and_e g68
  obtain ⟨g71, g72⟩ := and_e g70
  obtain ⟨g73, g74⟩ := and_e g72
  obtain ⟨g75, g76⟩ := and_e g74
  obtain ⟨g77, g78⟩ := and_e g76
  obtain ⟨g79, g80⟩ := and_e g78
  obtain ⟨g81, g82⟩ := and_e g80
  obtain ⟨g83, g84⟩ := and_e g82
  obtain ⟨g85, g86⟩ := and_e g84
  obtain ⟨g87, g88⟩ := and_e g86
  obtain ⟨g89, g90⟩ := and_e g88
  obtain ⟨g91, g92⟩ := and_e g90
  obtain ⟨g93, g94⟩ := and_e g92
  obtain ⟨g95, g96⟩ := and_e g94
  obtain ⟨g97, g98⟩ := and_e g96
  obtain ⟨g99, g100⟩ := and_e g98
  obtain ⟨g101, g102⟩ := and_e g100
  obtain ⟨g103, g104⟩ := and_e g102
  obtain ⟨g105, g106⟩ := and_e g104
  obtain ⟨g107, g108⟩ := and_e g106
  obtain ⟨g109, g110⟩ := and_e g108
  obtain ⟨g111, g112⟩ := and_e g110
  obtain ⟨g113, g114⟩ := and_e g112
  obtain ⟨g115, g116⟩ := and_e g114
  obtain ⟨g117, g118⟩ := and_e g116
  obtain ⟨g119, g120⟩ := and_e g118
  obtain ⟨g121, g122⟩ := and_e g120
  obtain ⟨g123, g124⟩ := and_e g122
  obtain ⟨g125, g126⟩ := and_e g124
  obtain ⟨g127, g128⟩ := and_e g126
  obtain ⟨g129, g130⟩ := and_e g128
  obtain ⟨g131, g132⟩ := and_e g130
  obtain ⟨g133, g134⟩ := and_e g132
  obtain ⟨g135, g136⟩ := and_e g134
  obtain ⟨g137, g138⟩ := and_e g136
  obtain ⟨g139, g140⟩ := and_e g138
  obtain ⟨g141, g142⟩ := and_e g140
  obtain ⟨g143, g144⟩ := and_e g142
  obtain ⟨g145, g146⟩ := and_e g144
  obtain ⟨g147, g148⟩ := and_e g146
  obtain ⟨w0, rfl⟩ : ∃ w0 : Value, args = #[w0] := by
    have hs : args.size = 1 := by simpa [Cond.value, given_1] using g1
    obtain ⟨L⟩ := args
    match L, hs with
    | [w0], _ => exact ⟨w0, rfl⟩
  have hw := fun d (hd : d ∈ tables_1) => atoms_spec (ws := Jvm.Cond.code x code maxLocals ret :: tables_1) hat d (List.mem_cons_of_mem _ hd)
  have hfit : Fit s := fun {y c} hc i hi => by
    obtain ⟨ha, rfl⟩ := Array.getElem?_eq_some_iff.mp hc
    have q := List.all_eq_true.mp ((Array.all_eq_true_iff_forall_mem.mp hF) _ (Array.getElem_mem ha)) i (List.mem_range.mpr hi)
    simpa [Array.getElem?_eq_getElem hi] using q
  obtain ⟨i0, ei0⟩ := is_v g2
  obtain rfl : w0 = (.int i0) := Option.some.inj ei0
  obtain ⟨ag149, vg149⟩ := exa_v g3
  have Sg149 := Sta.start vg149 (Or.inr ⟨(hw _ (List.mem_of_getElem? (i := 6) rfl)), (hw _ (List.mem_of_getElem? (i := 7) rfl))⟩)
  have Eg149 := Exa.start vg149 g3
  have o0 := own_eqI g7
  rw [fld_at vg149] at o0
  obtain ⟨ag150, vg150⟩ := exa_v g43
  have Sg150 := Sta.start vg150 (Or.inr ⟨(hw _ (List.mem_of_getElem? (i := 6) rfl)), (hw _ (List.mem_of_getElem? (i := 32) rfl))⟩)
  have Eg150 := Exa.start vg150 g43
  have o1 := own_eqI g45
  rw [fld_at vg150] at o1
  obtain ⟨ag151, vg151⟩ := exa_v g31
  have Sg151 := Sta.start vg151 (Or.inr ⟨(hw _ (List.mem_of_getElem? (i := 6) rfl)), (hw _ (List.mem_of_getElem? (i := 26) rfl))⟩)
  have Eg151 := Exa.start vg151 g31
  have o2 := own_eqI g33
  rw [fld_at vg151] at o2
  obtain ⟨ag152, vg152⟩ := exa_v g11
  have Sg152 := Sta.start vg152 (Or.inr ⟨(hw _ (List.mem_of_getElem? (i := 6) rfl)), (hw _ (List.mem_of_getElem? (i := 16) rfl))⟩)
  have Eg152 := Exa.start vg152 g11
  have o3 := own_eqI g13
  rw [fld_at vg152] at o3
  obtain ⟨ag153, vg153⟩ := exa_v g47
  have Sg153 := Sta.start vg153 (Or.inr ⟨(hw _ (List.mem_of_getElem? (i := 6) rfl)), (hw _ (List.mem_of_getElem? (i := 34) rfl))⟩)
  have Eg153 := Exa.start vg153 g47
  have o4 := own_eqI g49
  rw [fld_at vg153] at o4
  obtain ⟨ag154, vg154⟩ := exa_v g23
  have Sg154 := Sta.start vg154 (Or.inr ⟨(hw _ (List.mem_of_getElem? (i := 6) rfl)), (hw _ (List.mem_of_getElem? (i := 22) rfl))⟩)
  have Eg154 := Exa.start vg154 g23
  have o5 := own_eqI g25
  rw [fld_at vg154] at o5
  obtain ⟨ag155, vg155⟩ := exa_v g111
  have Sg155 := Sta.start vg155 (Or.inr ⟨(hw _ (List.mem_of_getElem? (i := 6) rfl)), (hw _ (List.mem_of_getElem? (i := 66) rfl))⟩)
  have Eg155 := Exa.start vg155 g111
  have o6 := own_eqI g113
  rw [fld_at vg155] at o6
  obtain ⟨ag156, vg156⟩ := exa_v g27
  have Sg156 := Sta.start vg156 (Or.inr ⟨(hw _ (List.mem_of_getElem? (i := 6) rfl)), (hw _ (List.mem_of_getElem? (i := 24) rfl))⟩)
  have Eg156 := Exa.start vg156 g27
  have o7 := own_eqI g29
  rw [fld_at vg156] at o7
  obtain ⟨ag157, vg157⟩ := exa_v g39
  have Sg157 := Sta.start vg157 (Or.inr ⟨(hw _ (List.mem_of_getElem? (i := 6) rfl)), (hw _ (List.mem_of_getElem? (i := 30) rfl))⟩)
  have Eg157 := Exa.start vg157 g39
  have o8 := own_eqI g41
  rw [fld_at vg157] at o8
  obtain ⟨ag158, vg158⟩ := exa_v g107
  have Sg158 := Sta.start vg158 (Or.inr ⟨(hw _ (List.mem_of_getElem? (i := 6) rfl)), (hw _ (List.mem_of_getElem? (i := 64) rfl))⟩)
  have Eg158 := Exa.start vg158 g107
  have o9 := own_eqI g109
  rw [fld_at vg158] at o9
  obtain ⟨ag159, vg159⟩ := exa_v g55
  have Sg159 := Sta.start vg159 (Or.inr ⟨(hw _ (List.mem_of_getElem? (i := 6) rfl)), (hw _ (List.mem_of_getElem? (i := 38) rfl))⟩)
  have Eg159 := Exa.start vg159 g55
  have o10 := own_eqI g57
  rw [fld_at vg159] at o10
  obtain ⟨ag160, vg160⟩ := exa_v g35
  have Sg160 := Sta.start vg160 (Or.inr ⟨(hw _ (List.mem_of_getElem? (i := 6) rfl)), (hw _ (List.mem_of_getElem? (i := 28) rfl))⟩)
  have Eg160 := Exa.start vg160 g35
  have o11 := own_eqI g37
  rw [fld_at vg160] at o11
  obtain ⟨ag161, vg161⟩ := exa_v g115
  have Sg161 := Sta.start vg161 (Or.inr ⟨(hw _ (List.mem_of_getElem? (i := 6) rfl)), (hw _ (List.mem_of_getElem? (i := 68) rfl))⟩)
  have Eg161 := Exa.start vg161 g115
  have o12 := own_eqI g117
  rw [fld_at vg161] at o12
  obtain ⟨ag162, vg162⟩ := exa_v g99
  have Sg162 := Sta.start vg162 (Or.inr ⟨(hw _ (List.mem_of_getElem? (i := 6) rfl)), (hw _ (List.mem_of_getElem? (i := 60) rfl))⟩)
  have Eg162 := Exa.start vg162 g99
  have o13 := own_eqI g101
  rw [fld_at vg162] at o13
  obtain ⟨ag163, vg163⟩ := exa_v g51
  have Sg163 := Sta.start vg163 (Or.inr ⟨(hw _ (List.mem_of_getElem? (i := 6) rfl)), (hw _ (List.mem_of_getElem? (i := 36) rfl))⟩)
  have Eg163 := Exa.start vg163 g51
  have o14 := own_eqI g53
  rw [fld_at vg163] at o14
  obtain ⟨ag164, vg164⟩ := exa_v g83
  have Sg164 := Sta.start vg164 (Or.inr ⟨(hw _ (List.mem_of_getElem? (i := 6) rfl)), (hw _ (List.mem_of_getElem? (i := 52) rfl))⟩)
  have Eg164 := Exa.start vg164 g83
  have o15 := own_eqI g85
  rw [fld_at vg164] at o15
  obtain ⟨ag165, vg165⟩ := exa_v g19
  have Sg165 := Sta.start vg165 (Or.inr ⟨(hw _ (List.mem_of_getElem? (i := 6) rfl)), (hw _ (List.mem_of_getElem? (i := 20) rfl))⟩)
  have Eg165 := Exa.start vg165 g19
  have o16 := own_eqI g21
  rw [fld_at vg165] at o16
  obtain ⟨ag166, vg166⟩ := exa_v g119
  have Sg166 := Sta.start vg166 (Or.inr ⟨(hw _ (List.mem_of_getElem? (i := 6) rfl)), (hw _ (List.mem_of_getElem? (i := 70) rfl))⟩)
  have Eg166 := Exa.start vg166 g119
  have o17 := own_eqI g121
  rw [fld_at vg166] at o17
  obtain ⟨ag167, vg167⟩ := exa_v g91
  have Sg167 := Sta.start vg167 (Or.inr ⟨(hw _ (List.mem_of_getElem? (i := 6) rfl)), (hw _ (List.mem_of_getElem? (i := 56) rfl))⟩)
  have Eg167 := Exa.start vg167 g91
  have o18 := own_eqI g93
  rw [fld_at vg167] at o18
  obtain ⟨ag168, vg168⟩ := exa_v g79
  have Sg168 := Sta.start vg168 (Or.inr ⟨(hw _ (List.mem_of_getElem? (i := 6) rfl)), (hw _ (List.mem_of_getElem? (i := 50) rfl))⟩)
  have Eg168 := Exa.start vg168 g79
  have o19 := own_eqI g81
  rw [fld_at vg168] at o19
  obtain ⟨ag169, vg169⟩ := exa_v g135
  have Sg169 := Sta.start vg169 (Or.inr ⟨(hw _ (List.mem_of_getElem? (i := 6) rfl)), (hw _ (List.mem_of_getElem? (i := 79) rfl))⟩)
  have Eg169 := Exa.start vg169 g135
  have o20 := own_eqI g137
  rw [fld_at vg169] at o20
  obtain ⟨ag170, vg170⟩ := exa_v g127
  have Sg170 := Sta.start vg170 (Or.inr ⟨(hw _ (List.mem_of_getElem? (i := 6) rfl)), (hw _ (List.mem_of_getElem? (i := 74) rfl))⟩)
  have Eg170 := Exa.start vg170 g127
  have o21 := own_eqI g129
  rw [fld_at vg170] at o21
  obtain ⟨ag171, vg171⟩ := exa_v g5
  have Sg171 := Sta.start vg171 (Or.inr ⟨(hw _ (List.mem_of_getElem? (i := 6) rfl)), (hw _ (List.mem_of_getElem? (i := 14) rfl))⟩)
  have Eg171 := Exa.start vg171 g5
  have o22 := own_eqI g9
  rw [fld_at vg171] at o22
  obtain ⟨ag172, vg172⟩ := exa_v g103
  have Sg172 := Sta.start vg172 (Or.inr ⟨(hw _ (List.mem_of_getElem? (i := 6) rfl)), (hw _ (List.mem_of_getElem? (i := 62) rfl))⟩)
  have Eg172 := Exa.start vg172 g103
  have o23 := own_eqI g105
  rw [fld_at vg172] at o23
  obtain ⟨ag173, vg173⟩ := exa_v g143
  have Sg173 := Sta.start vg173 (Or.inr ⟨(hw _ (List.mem_of_getElem? (i := 6) rfl)), (hw _ (List.mem_of_getElem? (i := 83) rfl))⟩)
  have Eg173 := Exa.start vg173 g143
  have o24 := own_eqI g145
  rw [fld_at vg173] at o24
  obtain ⟨ag174, vg174⟩ := exa_v g71
  have Sg174 := Sta.start vg174 (Or.inr ⟨(hw _ (List.mem_of_getElem? (i := 6) rfl)), (hw _ (List.mem_of_getElem? (i := 46) rfl))⟩)
  have Eg174 := Exa.start vg174 g71
  have o25 := own_eqI g73
  rw [fld_at vg174] at o25
  obtain ⟨ag175, vg175⟩ := exa_v g139
  have Sg175 := Sta.start vg175 (Or.inr ⟨(hw _ (List.mem_of_getElem? (i := 6) rfl)), (hw _ (List.mem_of_getElem? (i := 81) rfl))⟩)
  have Eg175 := Exa.start vg175 g139
  have o26 := own_eqI g141
  rw [fld_at vg175] at o26
  obtain ⟨ag176, vg176⟩ := exa_v g63
  have Sg176 := Sta.start vg176 (Or.inr ⟨(hw _ (List.mem_of_getElem? (i := 6) rfl)), (hw _ (List.mem_of_getElem? (i := 42) rfl))⟩)
  have Eg176 := Exa.start vg176 g63
  have o27 := own_eqI g65
  rw [fld_at vg176] at o27
  obtain ⟨ag177, vg177⟩ := exa_v g87
  have Sg177 := Sta.start vg177 (Or.inr ⟨(hw _ (List.mem_of_getElem? (i := 6) rfl)), (hw _ (List.mem_of_getElem? (i := 54) rfl))⟩)
  have Eg177 := Exa.start vg177 g87
  have o28 := own_eqI g89
  rw [fld_at vg177] at o28
  obtain ⟨ag178, vg178⟩ := exa_v g59
  have Sg178 := Sta.start vg178 (Or.inr ⟨(hw _ (List.mem_of_getElem? (i := 6) rfl)), (hw _ (List.mem_of_getElem? (i := 40) rfl))⟩)
  have Eg178 := Exa.start vg178 g59
  have o29 := own_eqI g61
  rw [fld_at vg178] at o29
  obtain ⟨ag179, vg179⟩ := exa_v g123
  have Sg179 := Sta.start vg179 (Or.inr ⟨(hw _ (List.mem_of_getElem? (i := 6) rfl)), (hw _ (List.mem_of_getElem? (i := 72) rfl))⟩)
  have Eg179 := Exa.start vg179 g123
  have o30 := own_eqI g125
  rw [fld_at vg179] at o30
  obtain ⟨ag180, vg180⟩ := exa_v g147
  have Sg180 := Sta.start vg180 (Or.inr ⟨(hw _ (List.mem_of_getElem? (i := 6) rfl)), (hw _ (List.mem_of_getElem? (i := 85) rfl))⟩)
  have Eg180 := Exa.start vg180 g147
  have o31 := own_eqI g148
  rw [fld_at vg180] at o31
  obtain ⟨ag181, vg181⟩ := exa_v g75
  have Sg181 := Sta.start vg181 (Or.inr ⟨(hw _ (List.mem_of_getElem? (i := 6) rfl)), (hw _ (List.mem_of_getElem? (i := 48) rfl))⟩)
  have Eg181 := Exa.start vg181 g75
  have o32 := own_eqI g77
  rw [fld_at vg181] at o32
  obtain ⟨ag182, vg182⟩ := exa_v g67
  have Sg182 := Sta.start vg182 (Or.inr ⟨(hw _ (List.mem_of_getElem? (i := 6) rfl)), (hw _ (List.mem_of_getElem? (i := 44) rfl))⟩)
  have Eg182 := Exa.start vg182 g67
  have o33 := own_eqI g69
  rw [fld_at vg182] at o33
  obtain ⟨ag183, vg183⟩ := exa_v g95
  have Sg183 := Sta.start vg183 (Or.inr ⟨(hw _ (List.mem_of_getElem? (i := 6) rfl)), (hw _ (List.mem_of_getElem? (i := 58) rfl))⟩)
  have Eg183 := Exa.start vg183 g95
  have o34 := own_eqI g97
  rw [fld_at vg183] at o34
  obtain ⟨ag184, vg184⟩ := exa_v g131
  have Sg184 := Sta.start vg184 (Or.inr ⟨(hw _ (List.mem_of_getElem? (i := 6) rfl)), (hw _ (List.mem_of_getElem? (i := 76) rfl))⟩)
  have Eg184 := Exa.start vg184 g131
  have o35 := own_eqI g133
  rw [fld_at vg184] at o35
  obtain ⟨ag185, vg185⟩ := exa_v g15
  have Sg185 := Sta.start vg185 (Or.inr ⟨(hw _ (List.mem_of_getElem? (i := 6) rfl)), (hw _ (List.mem_of_getElem? (i := 18) rfl))⟩)
  have Eg185 := Exa.start vg185 g15
  have o36 := own_eqI g17
  rw [fld_at vg185] at o36
  obtain ⟨n, o, h1, h2, h3, _, L, rfl, ⟨rfl, N, -⟩, hq⟩ := rm_law l s _ hw i0 ag149 ag150 ag151 ag152 ag153 ag154 ag155 ag156 ag157 ag158 ag159 ag160 ag161 ag162 ag163 ag164 ag165 ag166 ag167 ag168 ag169 ag170 ag171 ag172 ag173 ag174 ag175 ag176 ag177 ag178 ag179 ag180 ag181 ag182 ag183 ag184 ag185 s.heap (Ext.refl _) Sg149 Sg150 Sg151 Sg152 Sg153 Sg154 Sg155 Sg156 Sg157 Sg158 Sg159 Sg160 Sg161 Sg162 Sg163 Sg164 Sg165 Sg166 Sg167 Sg168 Sg169 Sg170 Sg171 Sg172 Sg173 Sg174 Sg175 Sg176 Sg177 Sg178 Sg179 Sg180 Sg181 Sg182 Sg183 Sg184 Sg185 Eg149 Eg150 Eg151 Eg152 Eg153 Eg154 Eg155 Eg156 Eg157 Eg158 Eg159 Eg160 Eg161 Eg162 Eg163 Eg164 Eg165 Eg166 Eg167 Eg168 Eg169 Eg170 Eg171 Eg172 Eg173 Eg174 Eg175 Eg176 Eg177 Eg178 Eg179 Eg180 Eg181 Eg182 Eg183 Eg184 Eg185 (own_ne o0 o22 (by decide)) (own_ne o1 o22 (by decide)) (own_ne o2 o22 (by decide)) (own_ne o3 o22 (by decide)) (own_ne o4 o22 (by decide)) (own_ne o5 o22 (by decide)) (own_ne o6 o22 (by decide)) (own_ne o7 o22 (by decide)) (own_ne o8 o22 (by decide)) (own_ne o9 o22 (by decide)) (own_ne o10 o22 (by decide)) (own_ne o11 o22 (by decide)) (own_ne o12 o22 (by decide)) (own_ne o13 o22 (by decide)) (own_ne o14 o22 (by decide)) (own_ne o15 o22 (by decide)) (own_ne o16 o22 (by decide)) (own_ne o17 o22 (by decide)) (own_ne o18 o22 (by decide)) (own_ne o19 o22 (by decide)) (own_ne o20 o22 (by decide)) (own_ne o21 o22 (by decide)) (own_ne o23 o22 (by decide)) (own_ne o24 o22 (by decide)) (own_ne o25 o22 (by decide)) (own_ne o26 o22 (by decide)) (own_ne o27 o22 (by decide)) (own_ne o28 o22 (by decide)) (own_ne o29 o22 (by decide)) (own_ne o30 o22 (by decide)) (own_ne o31 o22 (by decide)) (own_ne o32 o22 (by decide)) (own_ne o33 o22 (by decide)) (own_ne o34 o22 (by decide)) (own_ne o35 o22 (by decide)) (own_ne o36 o22 (by decide)) tables_1 p e ha hc hk s m _ below hf ((Spec.applies_iff_loose hf).mp happ).1 ⟨rfl, State.Warmed39.refl s, rfl⟩ trivial
  refine ⟨n, _, h1, h2, h3, hpost _ _ _ _ _ _ ⟨Cond.after_iff.mpr rfl, Cond.after_iff.mpr (eq_i res_at (Term.int_eval (1)) rfl), trivial⟩ ⟨hq.1, hq.2.1, (hq.2.2.sift fun y hy => Or.inr (N y hy)).mono (by decide) (by decide)⟩⟩
theorem main_1_1 : Claimed_1_1 := comes_1 fun _ _ _ _ _ _ h hF => ⟨h.1, hF⟩
theorem main_1_2 : Claimed_1_2 := comes_1 fun _ _ _ _ _ _ h hF => ⟨h.2.1, hF⟩
end Jvm.Pilot.@@N@@
namespace Jvm.Pilot.@@N@@
open Jvm Jvm.ClassFile Sem Op Lib Jvm.Free Jvm.Stand Jvm.Pilot.@@N@@.Jvm.D
/-! MADE BY PROGRAM (witnessworld.py) out of the Statement's table words and the real class files: 12 classes; the members and pool entries that the words name. The judged class is class 1, her method 1. -/
namespace start1
open Jvm.ClassFile
def u (s : String) : CpInfo := .utf8 (stringToUtf16 s)
/-- a pool by its gaps: so many unusable entries, then the entry; so many at the end -/
def gap : Nat → List CpInfo → List CpInfo
  | 0, r => r
  | n + 1, r => .unusable :: gap n r
def poolList (es : List (Nat × CpInfo)) (last : Nat) : List CpInfo := es.foldr (fun e r => gap e.1 (e.2 :: r)) (gap last [])
def pool (es : List (Nat × CpInfo)) (last : Nat) : Array CpInfo := ⟨poolList es last⟩
def fileOf (pool : Array CpInfo) (this : Nat) (attrs : Array Attribute := #[]) (ms : Array MethodInfo := #[]) (fl : Nat := 33) (sup : Nat := 0) (ifs : Array Nat := #[]) (fds : Array FieldInfo := #[]) : ClassFile where
  minorVersion := 0
  majorVersion := 65
  constantPool := pool
  accessFlags := fl
  thisClass := this
  superClass := sup
  interfaces := ifs
  fields := fds
  methods := ms
  attributes := attrs
def plain (name : String) (sup : Option ClassId) : Class where
  name := name
  kind := .ordinary
  loader := none
  accessFlags := 33
  super := sup
  interfaces := #[]
  cf := none
  fields := #[]
  methods := #[]
  instanceTypes := #[]
  staticTypes := #[]
  resolved := #[]
  callSites := []
  init := .initialized
  statics := none
  mirror := none

def pool0 : Array CpInfo := pool [(5, u "<init>"), (0, u "()V"), (1, .class_ 10), (1, u "java/lang/Object")] 113

def k0m0 : Method := { name := "<init>", desc := "()V", sig := { parameters := [], returnType := none }, accessFlags := 1, code := none }
/-- java/lang/Object -/
def k0 : Class := { plain "java/lang/Object" none with
  accessFlags := 33
  interfaces := #[]
  cf := some (fileOf pool0 8 #[] #[{ accessFlags := 1, nameIndex := 5, descriptorIndex := 6, attributes := #[] }] 33 0 #[] #[])
  fields := #[]
  methods := #[k0m0]
  instanceTypes := #[]
  staticTypes := #[]
  resolved := Array.replicate 124 none
  statics := none }

def pool1 : Array CpInfo := pool [(2, .class_ 4), (1, u "java/lang/Object"), (0, u "<init>"), (0, u "()V"), (0, .integer 2147483647), (0, .methodref 9 10), (0, .class_ 11), (0, .nameAndType 12 13), (0, u "se/bryggan/saml/EidAttributeIsScopedPinLaw"), (0, u "pick"), (0, u "(I)Lse/bryggan/saml/EidAttribute;"), (0, .methodref 15 16), (0, .class_ 17), (0, .nameAndType 18 19), (0, u "se/bryggan/saml/EidAttribute"), (0, u "isScoped"), (0, u "()Z"), (0, .fieldref 15 21), (0, .nameAndType 22 23), (0, u "SN"), (0, u "Lse/bryggan/saml/EidAttribute;"), (0, .fieldref 15 25), (0, .nameAndType 26 23), (0, u "GIVEN_NAME"), (0, .fieldref 15 28), (0, .nameAndType 29 23), (0, u "DISPLAY_NAME"), (0, .fieldref 15 31), (0, .nameAndType 32 23), (0, u "GENDER"), (0, .fieldref 15 34), (0, .nameAndType 35 23), (0, u "PERSONAL_IDENTITY_NUMBER"), (0, .fieldref 15 37), (0, .nameAndType 38 23), (0, u "PREVIOUS_PERSONAL_IDENTITY_NUMBER"), (0, .fieldref 15 40), (0, .nameAndType 41 23), (0, u "DATE_OF_BIRTH"), (0, .fieldref 15 43), (0, .nameAndType 44 23), (0, u "BIRTH_NAME"), (0, .fieldref 15 46), (0, .nameAndType 47 23), (0, u "STREET"), (0, .fieldref 15 49), (0, .nameAndType 50 23), (0, u "POST_OFFICE_BOX"), (0, .fieldref 15 52), (0, .nameAndType 53 23), (0, u "POSTAL_CODE"), (0, .fieldref 15 55), (0, .nameAndType 56 23), (0, u "L"), (0, .fieldref 15 58), (0, .nameAndType 59 23), (0, u "C"), (0, .fieldref 15 61), (0, .nameAndType 62 23), (0, u "PLACE_OF_BIRTH"), (0, .fieldref 15 64), (0, .nameAndType 65 23), (0, u "COUNTRY_OF_CITIZENSHIP"), (0, .fieldref 15 67), (0, .nameAndType 68 23), (0, u "COUNTRY_OF_RESIDENCE"), (0, .fieldref 15 70), (0, .nameAndType 71 23), (0, u "TELEPHONE_NUMBER"), (0, .fieldref 15 73), (0, .nameAndType 74 23), (0, u "MOBILE"), (0, .fieldref 15 76), (0, .nameAndType 77 23), (0, u "MAIL"), (0, .fieldref 15 79), (0, .nameAndType 80 23), (0, u "O"), (0, .fieldref 15 82), (0, .nameAndType 83 23), (0, u "OU"), (0, .fieldref 15 85), (0, .nameAndType 86 23), (0, u "ORGANIZATION_IDENTIFIER"), (0, .fieldref 15 88), (0, .nameAndType 89 23), (0, u "ORG_AFFILIATION"), (0, .fieldref 15 91), (0, .nameAndType 92 23), (0, u "TRANSACTION_IDENTIFIER"), (0, .fieldref 15 94), (0, .nameAndType 95 23), (0, u "AUTH_CONTEXT_PARAMS"), (0, .fieldref 15 97), (0, .nameAndType 98 23), (0, u "USER_CERTIFICATE"), (0, .fieldref 15 100), (0, .nameAndType 101 23), (0, u "USER_SIGNATURE"), (0, .fieldref 15 103), (0, .nameAndType 104 23), (0, u "AUTH_SERVER_SIGNATURE"), (0, .fieldref 15 106), (0, .nameAndType 107 23), (0, u "SAD"), (0, .fieldref 15 109), (0, .nameAndType 110 23), (0, u "SIGN_MESSAGE_DIGEST"), (0, .fieldref 15 112), (0, .nameAndType 113 23), (0, u "PRID"), (0, .fieldref 15 115), (0, .nameAndType 116 23), (0, u "PRID_PERSISTENCE"), (0, .fieldref 15 118), (0, .nameAndType 119 23), (0, u "PERSONAL_IDENTITY_NUMBER_BINDING"), (0, .fieldref 15 121), (0, .nameAndType 122 23), (0, u "MAPPED_PERSONAL_IDENTITY_NUMBER"), (0, .fieldref 15 124), (0, .nameAndType 125 23), (0, u "EIDAS_PERSON_IDENTIFIER"), (0, .fieldref 15 127), (0, .nameAndType 128 23), (0, u "EIDAS_NATURAL_PERSON_ADDRESS"), (0, .fieldref 15 130), (0, .nameAndType 131 23), (0, u "EMPLOYEE_HSA_ID"), (2, u "law"), (0, u "(I)Z")] 3

def k1m0 : Method := { name := "<init>", desc := "()V", sig := { parameters := [], returnType := none }, accessFlags := 1, code := none }
def k1c1 : Code := { maxStack := 2, maxLocals := 4, code := code, exceptionTable := #[], attributes := #[] }
def k1m1 : Method := { name := "law", desc := "(I)Z", sig := { parameters := [.int], returnType := some .boolean }, accessFlags := 9, code := some k1c1 }
def k1c2 : Code := { maxStack := 1, maxLocals := 1, code := method_3_code, exceptionTable := #[], attributes := #[] }
def k1m2 : Method := { name := "pick", desc := "(I)Lse/bryggan/saml/EidAttribute;", sig := { parameters := [.int], returnType := some (.object "se/bryggan/saml/EidAttribute") }, accessFlags := 10, code := some k1c2 }
/-- se/bryggan/saml/EidAttributeIsScopedPinLaw -/
def k1 : Class := { plain "se/bryggan/saml/EidAttributeIsScopedPinLaw" (some 0) with
  accessFlags := 49
  interfaces := #[]
  cf := some (fileOf pool1 9 #[] #[{ accessFlags := 1, nameIndex := 5, descriptorIndex := 6, attributes := #[] }, { accessFlags := 9, nameIndex := 134, descriptorIndex := 135, attributes := #[] }, { accessFlags := 10, nameIndex := 12, descriptorIndex := 13, attributes := #[] }] 49 2 #[] #[])
  fields := #[]
  methods := #[k1m0, k1m1, k1m2]
  instanceTypes := #[]
  staticTypes := #[]
  resolved := Array.replicate 139 none
  statics := none }

def pool2 : Array CpInfo := pool [(1, .class_ 2), (0, u "java/lang/constant/Constable"), (0, .class_ 4), (0, u "java/lang/Object")] 6

/-- java/lang/constant/Constable -/
def k2 : Class := { plain "java/lang/constant/Constable" (some 0) with
  accessFlags := 1537
  interfaces := #[]
  cf := some (fileOf pool2 1 #[] #[] 1537 3 #[] #[])
  fields := #[]
  methods := #[]
  instanceTypes := #[]
  staticTypes := #[]
  resolved := Array.replicate 11 none
  statics := none }

def pool3 : Array CpInfo := pool [(1, .class_ 2), (0, u "java/lang/Comparable"), (0, .class_ 4), (0, u "java/lang/Object")] 7

/-- java/lang/Comparable -/
def k3 : Class := { plain "java/lang/Comparable" (some 0) with
  accessFlags := 1537
  interfaces := #[]
  cf := some (fileOf pool3 1 #[] #[] 1537 3 #[] #[])
  fields := #[]
  methods := #[]
  instanceTypes := #[]
  staticTypes := #[]
  resolved := Array.replicate 12 none
  statics := none }

def pool4 : Array CpInfo := pool [(1, .class_ 2), (0, u "java/io/Serializable"), (0, .class_ 4), (0, u "java/lang/Object")] 2

/-- java/io/Serializable -/
def k4 : Class := { plain "java/io/Serializable" (some 0) with
  accessFlags := 1537
  interfaces := #[]
  cf := some (fileOf pool4 1 #[] #[] 1537 3 #[] #[])
  fields := #[]
  methods := #[]
  instanceTypes := #[]
  staticTypes := #[]
  resolved := Array.replicate 7 none
  statics := none }

def pool5 : Array CpInfo := pool [(2, .class_ 4), (1, u "java/lang/Enum"), (0, u "name"), (0, u "Ljava/lang/String;"), (2, u "ordinal"), (0, u "I"), (1, .class_ 14), (1, u "java/lang/Object"), (4, u "hash"), (86, .class_ 108), (1, u "java/lang/Enum$EnumDesc"), (2, .class_ 112), (0, u "java/lang/constant/Constable"), (0, .class_ 114), (0, u "java/lang/Comparable"), (0, .class_ 116), (0, u "java/io/Serializable")] 87

/-- java/lang/Enum -/
def k5 : Class := { plain "java/lang/Enum" (some 0) with
  accessFlags := 1057
  interfaces := #[2, 3, 4]
  cf := some (fileOf pool5 2 #[.nestMembers #[106]] #[] 1057 12 #[111, 113, 115] #[{ accessFlags := 18, nameIndex := 5, descriptorIndex := 6, attributes := #[] }, { accessFlags := 18, nameIndex := 9, descriptorIndex := 10, attributes := #[] }, { accessFlags := 2, nameIndex := 19, descriptorIndex := 10, attributes := #[] }])
  fields := #[{ name := "name", type := (.object "java/lang/String"), accessFlags := 18, slot := 0, constantValue := 0 }, { name := "ordinal", type := .int, accessFlags := 18, slot := 1, constantValue := 0 }, { name := "hash", type := .int, accessFlags := 2, slot := 2, constantValue := 0 }]
  methods := #[]
  instanceTypes := #[(.object "java/lang/String"), .int, .int]
  staticTypes := #[]
  resolved := Array.replicate 204 none
  statics := none }

def pool6 : Array CpInfo := pool [(1, .class_ 2), (0, u "se/bryggan/saml/EidAttribute"), (2, u "SN"), (0, u "Lse/bryggan/saml/EidAttribute;"), (2, u "GIVEN_NAME"), (2, u "DISPLAY_NAME"), (2, u "GENDER"), (2, u "PERSONAL_IDENTITY_NUMBER"), (2, u "PREVIOUS_PERSONAL_IDENTITY_NUMBER"), (2, u "DATE_OF_BIRTH"), (2, u "BIRTH_NAME"), (2, u "STREET"), (2, u "POST_OFFICE_BOX"), (2, u "POSTAL_CODE"), (2, u "L"), (2, u "C"), (2, u "PLACE_OF_BIRTH"), (2, u "COUNTRY_OF_CITIZENSHIP"), (2, u "COUNTRY_OF_RESIDENCE"), (2, u "TELEPHONE_NUMBER"), (2, u "MOBILE"), (2, u "MAIL"), (2, u "O"), (2, u "OU"), (2, u "ORGANIZATION_IDENTIFIER"), (0, .fieldref 1 71), (0, .nameAndType 72 6), (0, u "ORG_AFFILIATION"), (2, u "TRANSACTION_IDENTIFIER"), (2, u "AUTH_CONTEXT_PARAMS"), (2, u "USER_CERTIFICATE"), (2, u "USER_SIGNATURE"), (2, u "AUTH_SERVER_SIGNATURE"), (2, u "SAD"), (2, u "SIGN_MESSAGE_DIGEST"), (2, u "PRID"), (2, u "PRID_PERSISTENCE"), (2, u "PERSONAL_IDENTITY_NUMBER_BINDING"), (2, u "MAPPED_PERSONAL_IDENTITY_NUMBER"), (2, u "EIDAS_PERSON_IDENTIFIER"), (2, u "EIDAS_NATURAL_PERSON_ADDRESS"), (2, u "EMPLOYEE_HSA_ID"), (2, u "$VALUES"), (0, u "[Lse/bryggan/saml/EidAttribute;"), (6, .class_ 127), (1, u "java/lang/Enum"), (8, u "friendlyName"), (0, u "Ljava/lang/String;"), (2, u "samlName"), (2, u "BY_SAML_NAME"), (0, u "Ljava/util/Map;"), (262, u "isScoped"), (0, u "()Z")] 28

def k6c0 : Code := { maxStack := 2, maxLocals := 1, code := prog_20_method_7_code, exceptionTable := #[], attributes := #[] }
def k6m0 : Method := { name := "isScoped", desc := "()Z", sig := { parameters := [], returnType := some .boolean }, accessFlags := 0, code := some k6c0 }
/-- se/bryggan/saml/EidAttribute -/
def k6 : Class := { plain "se/bryggan/saml/EidAttribute" (some 5) with
  accessFlags := 16432
  interfaces := #[]
  cf := some (fileOf pool6 1 #[] #[{ accessFlags := 0, nameIndex := 407, descriptorIndex := 408, attributes := #[] }] 16432 125 #[] #[{ accessFlags := 16409, nameIndex := 5, descriptorIndex := 6, attributes := #[] }, { accessFlags := 16409, nameIndex := 9, descriptorIndex := 6, attributes := #[] }, { accessFlags := 16409, nameIndex := 12, descriptorIndex := 6, attributes := #[] }, { accessFlags := 16409, nameIndex := 15, descriptorIndex := 6, attributes := #[] }, { accessFlags := 16409, nameIndex := 18, descriptorIndex := 6, attributes := #[] }, { accessFlags := 16409, nameIndex := 21, descriptorIndex := 6, attributes := #[] }, { accessFlags := 16409, nameIndex := 24, descriptorIndex := 6, attributes := #[] }, { accessFlags := 16409, nameIndex := 27, descriptorIndex := 6, attributes := #[] }, { accessFlags := 16409, nameIndex := 30, descriptorIndex := 6, attributes := #[] }, { accessFlags := 16409, nameIndex := 33, descriptorIndex := 6, attributes := #[] }, { accessFlags := 16409, nameIndex := 36, descriptorIndex := 6, attributes := #[] }, { accessFlags := 16409, nameIndex := 39, descriptorIndex := 6, attributes := #[] }, { accessFlags := 16409, nameIndex := 42, descriptorIndex := 6, attributes := #[] }, { accessFlags := 16409, nameIndex := 45, descriptorIndex := 6, attributes := #[] }, { accessFlags := 16409, nameIndex := 48, descriptorIndex := 6, attributes := #[] }, { accessFlags := 16409, nameIndex := 51, descriptorIndex := 6, attributes := #[] }, { accessFlags := 16409, nameIndex := 54, descriptorIndex := 6, attributes := #[] }, { accessFlags := 16409, nameIndex := 57, descriptorIndex := 6, attributes := #[] }, { accessFlags := 16409, nameIndex := 60, descriptorIndex := 6, attributes := #[] }, { accessFlags := 16409, nameIndex := 63, descriptorIndex := 6, attributes := #[] }, { accessFlags := 16409, nameIndex := 66, descriptorIndex := 6, attributes := #[] }, { accessFlags := 16409, nameIndex := 69, descriptorIndex := 6, attributes := #[] }, { accessFlags := 16409, nameIndex := 72, descriptorIndex := 6, attributes := #[] }, { accessFlags := 16409, nameIndex := 75, descriptorIndex := 6, attributes := #[] }, { accessFlags := 16409, nameIndex := 78, descriptorIndex := 6, attributes := #[] }, { accessFlags := 16409, nameIndex := 81, descriptorIndex := 6, attributes := #[] }, { accessFlags := 16409, nameIndex := 84, descriptorIndex := 6, attributes := #[] }, { accessFlags := 16409, nameIndex := 87, descriptorIndex := 6, attributes := #[] }, { accessFlags := 16409, nameIndex := 90, descriptorIndex := 6, attributes := #[] }, { accessFlags := 16409, nameIndex := 93, descriptorIndex := 6, attributes := #[] }, { accessFlags := 16409, nameIndex := 96, descriptorIndex := 6, attributes := #[] }, { accessFlags := 16409, nameIndex := 99, descriptorIndex := 6, attributes := #[] }, { accessFlags := 16409, nameIndex := 102, descriptorIndex := 6, attributes := #[] }, { accessFlags := 16409, nameIndex := 105, descriptorIndex := 6, attributes := #[] }, { accessFlags := 16409, nameIndex := 108, descriptorIndex := 6, attributes := #[] }, { accessFlags := 16409, nameIndex := 111, descriptorIndex := 6, attributes := #[] }, { accessFlags := 16409, nameIndex := 114, descriptorIndex := 6, attributes := #[] }, { accessFlags := 26, nameIndex := 143, descriptorIndex := 144, attributes := #[] }, { accessFlags := 18, nameIndex := 136, descriptorIndex := 137, attributes := #[] }, { accessFlags := 18, nameIndex := 140, descriptorIndex := 137, attributes := #[] }, { accessFlags := 4122, nameIndex := 117, descriptorIndex := 118, attributes := #[] }])
  fields := #[{ name := "SN", type := (.object "se/bryggan/saml/EidAttribute"), accessFlags := 16409, slot := 0, constantValue := 0 }, { name := "GIVEN_NAME", type := (.object "se/bryggan/saml/EidAttribute"), accessFlags := 16409, slot := 1, constantValue := 0 }, { name := "DISPLAY_NAME", type := (.object "se/bryggan/saml/EidAttribute"), accessFlags := 16409, slot := 2, constantValue := 0 }, { name := "GENDER", type := (.object "se/bryggan/saml/EidAttribute"), accessFlags := 16409, slot := 3, constantValue := 0 }, { name := "PERSONAL_IDENTITY_NUMBER", type := (.object "se/bryggan/saml/EidAttribute"), accessFlags := 16409, slot := 4, constantValue := 0 }, { name := "PREVIOUS_PERSONAL_IDENTITY_NUMBER", type := (.object "se/bryggan/saml/EidAttribute"), accessFlags := 16409, slot := 5, constantValue := 0 }, { name := "DATE_OF_BIRTH", type := (.object "se/bryggan/saml/EidAttribute"), accessFlags := 16409, slot := 6, constantValue := 0 }, { name := "BIRTH_NAME", type := (.object "se/bryggan/saml/EidAttribute"), accessFlags := 16409, slot := 7, constantValue := 0 }, { name := "STREET", type := (.object "se/bryggan/saml/EidAttribute"), accessFlags := 16409, slot := 8, constantValue := 0 }, { name := "POST_OFFICE_BOX", type := (.object "se/bryggan/saml/EidAttribute"), accessFlags := 16409, slot := 9, constantValue := 0 }, { name := "POSTAL_CODE", type := (.object "se/bryggan/saml/EidAttribute"), accessFlags := 16409, slot := 10, constantValue := 0 }, { name := "L", type := (.object "se/bryggan/saml/EidAttribute"), accessFlags := 16409, slot := 11, constantValue := 0 }, { name := "C", type := (.object "se/bryggan/saml/EidAttribute"), accessFlags := 16409, slot := 12, constantValue := 0 }, { name := "PLACE_OF_BIRTH", type := (.object "se/bryggan/saml/EidAttribute"), accessFlags := 16409, slot := 13, constantValue := 0 }, { name := "COUNTRY_OF_CITIZENSHIP", type := (.object "se/bryggan/saml/EidAttribute"), accessFlags := 16409, slot := 14, constantValue := 0 }, { name := "COUNTRY_OF_RESIDENCE", type := (.object "se/bryggan/saml/EidAttribute"), accessFlags := 16409, slot := 15, constantValue := 0 }, { name := "TELEPHONE_NUMBER", type := (.object "se/bryggan/saml/EidAttribute"), accessFlags := 16409, slot := 16, constantValue := 0 }, { name := "MOBILE", type := (.object "se/bryggan/saml/EidAttribute"), accessFlags := 16409, slot := 17, constantValue := 0 }, { name := "MAIL", type := (.object "se/bryggan/saml/EidAttribute"), accessFlags := 16409, slot := 18, constantValue := 0 }, { name := "O", type := (.object "se/bryggan/saml/EidAttribute"), accessFlags := 16409, slot := 19, constantValue := 0 }, { name := "OU", type := (.object "se/bryggan/saml/EidAttribute"), accessFlags := 16409, slot := 20, constantValue := 0 }, { name := "ORGANIZATION_IDENTIFIER", type := (.object "se/bryggan/saml/EidAttribute"), accessFlags := 16409, slot := 21, constantValue := 0 }, { name := "ORG_AFFILIATION", type := (.object "se/bryggan/saml/EidAttribute"), accessFlags := 16409, slot := 22, constantValue := 0 }, { name := "TRANSACTION_IDENTIFIER", type := (.object "se/bryggan/saml/EidAttribute"), accessFlags := 16409, slot := 23, constantValue := 0 }, { name := "AUTH_CONTEXT_PARAMS", type := (.object "se/bryggan/saml/EidAttribute"), accessFlags := 16409, slot := 24, constantValue := 0 }, { name := "USER_CERTIFICATE", type := (.object "se/bryggan/saml/EidAttribute"), accessFlags := 16409, slot := 25, constantValue := 0 }, { name := "USER_SIGNATURE", type := (.object "se/bryggan/saml/EidAttribute"), accessFlags := 16409, slot := 26, constantValue := 0 }, { name := "AUTH_SERVER_SIGNATURE", type := (.object "se/bryggan/saml/EidAttribute"), accessFlags := 16409, slot := 27, constantValue := 0 }, { name := "SAD", type := (.object "se/bryggan/saml/EidAttribute"), accessFlags := 16409, slot := 28, constantValue := 0 }, { name := "SIGN_MESSAGE_DIGEST", type := (.object "se/bryggan/saml/EidAttribute"), accessFlags := 16409, slot := 29, constantValue := 0 }, { name := "PRID", type := (.object "se/bryggan/saml/EidAttribute"), accessFlags := 16409, slot := 30, constantValue := 0 }, { name := "PRID_PERSISTENCE", type := (.object "se/bryggan/saml/EidAttribute"), accessFlags := 16409, slot := 31, constantValue := 0 }, { name := "PERSONAL_IDENTITY_NUMBER_BINDING", type := (.object "se/bryggan/saml/EidAttribute"), accessFlags := 16409, slot := 32, constantValue := 0 }, { name := "MAPPED_PERSONAL_IDENTITY_NUMBER", type := (.object "se/bryggan/saml/EidAttribute"), accessFlags := 16409, slot := 33, constantValue := 0 }, { name := "EIDAS_PERSON_IDENTIFIER", type := (.object "se/bryggan/saml/EidAttribute"), accessFlags := 16409, slot := 34, constantValue := 0 }, { name := "EIDAS_NATURAL_PERSON_ADDRESS", type := (.object "se/bryggan/saml/EidAttribute"), accessFlags := 16409, slot := 35, constantValue := 0 }, { name := "EMPLOYEE_HSA_ID", type := (.object "se/bryggan/saml/EidAttribute"), accessFlags := 16409, slot := 36, constantValue := 0 }, { name := "BY_SAML_NAME", type := (.object "java/util/Map"), accessFlags := 26, slot := 37, constantValue := 0 }, { name := "friendlyName", type := (.object "java/lang/String"), accessFlags := 18, slot := 3, constantValue := 0 }, { name := "samlName", type := (.object "java/lang/String"), accessFlags := 18, slot := 4, constantValue := 0 }, { name := "$VALUES", type := (.array (.object "se/bryggan/saml/EidAttribute")), accessFlags := 4122, slot := 38, constantValue := 0 }]
  methods := #[k6m0]
  instanceTypes := #[(.object "java/lang/String"), .int, .int, (.object "java/lang/String"), (.object "java/lang/String")]
  staticTypes := #[(.object "se/bryggan/saml/EidAttribute"), (.object "se/bryggan/saml/EidAttribute"), (.object "se/bryggan/saml/EidAttribute"), (.object "se/bryggan/saml/EidAttribute"), (.object "se/bryggan/saml/EidAttribute"), (.object "se/bryggan/saml/EidAttribute"), (.object "se/bryggan/saml/EidAttribute"), (.object "se/bryggan/saml/EidAttribute"), (.object "se/bryggan/saml/EidAttribute"), (.object "se/bryggan/saml/EidAttribute"), (.object "se/bryggan/saml/EidAttribute"), (.object "se/bryggan/saml/EidAttribute"), (.object "se/bryggan/saml/EidAttribute"), (.object "se/bryggan/saml/EidAttribute"), (.object "se/bryggan/saml/EidAttribute"), (.object "se/bryggan/saml/EidAttribute"), (.object "se/bryggan/saml/EidAttribute"), (.object "se/bryggan/saml/EidAttribute"), (.object "se/bryggan/saml/EidAttribute"), (.object "se/bryggan/saml/EidAttribute"), (.object "se/bryggan/saml/EidAttribute"), (.object "se/bryggan/saml/EidAttribute"), (.object "se/bryggan/saml/EidAttribute"), (.object "se/bryggan/saml/EidAttribute"), (.object "se/bryggan/saml/EidAttribute"), (.object "se/bryggan/saml/EidAttribute"), (.object "se/bryggan/saml/EidAttribute"), (.object "se/bryggan/saml/EidAttribute"), (.object "se/bryggan/saml/EidAttribute"), (.object "se/bryggan/saml/EidAttribute"), (.object "se/bryggan/saml/EidAttribute"), (.object "se/bryggan/saml/EidAttribute"), (.object "se/bryggan/saml/EidAttribute"), (.object "se/bryggan/saml/EidAttribute"), (.object "se/bryggan/saml/EidAttribute"), (.object "se/bryggan/saml/EidAttribute"), (.object "se/bryggan/saml/EidAttribute"), (.object "java/util/Map"), (.array (.object "se/bryggan/saml/EidAttribute"))]
  resolved := Array.replicate 437 none
  statics := some 0 }

def pool7 : Array CpInfo := pool [(1, u "java/lang/Cloneable"), (0, .class_ 1), (0, u "java/lang/Object"), (0, .class_ 3)] 3

/-- java/lang/Cloneable -/
def k7 : Class := { plain "java/lang/Cloneable" (some 0) with
  accessFlags := 1537
  interfaces := #[]
  cf := some (fileOf pool7 2 #[] #[] 1537 4 #[] #[])
  fields := #[]
  methods := #[]
  instanceTypes := #[]
  staticTypes := #[]
  resolved := Array.replicate 8 none
  statics := none }

/-- the primitive byte -/
def k8 : Class := { plain "byte" none with kind := .primitive 'B', accessFlags := 0x411 }
/-- [B -/
def k9 : Class := { plain "[B" (some 0) with kind := .array 8 .byte, interfaces := #[7, 4], accessFlags := 1041 }

/-- the primitive int -/
def k10 : Class := { plain "int" none with kind := .primitive 'I', accessFlags := 0x411 }
/-- [I -/
def k11 : Class := { plain "[I" (some 0) with kind := .array 10 .int, interfaces := #[7, 4], accessFlags := 1041 }

def heap : Heap := #[{ cls := 6, slots := #[.ref 1, .ref 2, .ref 3, .ref 4, .ref 5, .ref 6, .ref 7, .ref 8, .ref 9, .ref 10, .ref 11, .ref 12, .ref 13, .ref 14, .ref 15, .ref 16, .ref 17, .ref 18, .ref 19, .ref 20, .ref 21, .ref 22, .ref 23, .ref 24, .ref 25, .ref 26, .ref 27, .ref 28, .ref 29, .ref 30, .ref 31, .ref 32, .ref 33, .ref 34, .ref 35, .ref 36, .ref 37, .null, .null], vm := .statics 6 },
  { cls := 6, slots := #[.null, .int 0, .int 0, .null, .null], vm := .none },
  { cls := 6, slots := #[.null, .int 1, .int 0, .null, .null], vm := .none },
  { cls := 6, slots := #[.null, .int 2, .int 0, .null, .null], vm := .none },
  { cls := 6, slots := #[.null, .int 3, .int 0, .null, .null], vm := .none },
  { cls := 6, slots := #[.null, .int 4, .int 0, .null, .null], vm := .none },
  { cls := 6, slots := #[.null, .int 5, .int 0, .null, .null], vm := .none },
  { cls := 6, slots := #[.null, .int 6, .int 0, .null, .null], vm := .none },
  { cls := 6, slots := #[.null, .int 7, .int 0, .null, .null], vm := .none },
  { cls := 6, slots := #[.null, .int 8, .int 0, .null, .null], vm := .none },
  { cls := 6, slots := #[.null, .int 9, .int 0, .null, .null], vm := .none },
  { cls := 6, slots := #[.null, .int 10, .int 0, .null, .null], vm := .none },
  { cls := 6, slots := #[.null, .int 11, .int 0, .null, .null], vm := .none },
  { cls := 6, slots := #[.null, .int 12, .int 0, .null, .null], vm := .none },
  { cls := 6, slots := #[.null, .int 13, .int 0, .null, .null], vm := .none },
  { cls := 6, slots := #[.null, .int 14, .int 0, .null, .null], vm := .none },
  { cls := 6, slots := #[.null, .int 15, .int 0, .null, .null], vm := .none },
  { cls := 6, slots := #[.null, .int 16, .int 0, .null, .null], vm := .none },
  { cls := 6, slots := #[.null, .int 17, .int 0, .null, .null], vm := .none },
  { cls := 6, slots := #[.null, .int 18, .int 0, .null, .null], vm := .none },
  { cls := 6, slots := #[.null, .int 19, .int 0, .null, .null], vm := .none },
  { cls := 6, slots := #[.null, .int 20, .int 0, .null, .null], vm := .none },
  { cls := 6, slots := #[.null, .int 21, .int 0, .null, .null], vm := .none },
  { cls := 6, slots := #[.null, .int 22, .int 0, .null, .null], vm := .none },
  { cls := 6, slots := #[.null, .int 23, .int 0, .null, .null], vm := .none },
  { cls := 6, slots := #[.null, .int 24, .int 0, .null, .null], vm := .none },
  { cls := 6, slots := #[.null, .int 25, .int 0, .null, .null], vm := .none },
  { cls := 6, slots := #[.null, .int 26, .int 0, .null, .null], vm := .none },
  { cls := 6, slots := #[.null, .int 27, .int 0, .null, .null], vm := .none },
  { cls := 6, slots := #[.null, .int 28, .int 0, .null, .null], vm := .none },
  { cls := 6, slots := #[.null, .int 29, .int 0, .null, .null], vm := .none },
  { cls := 6, slots := #[.null, .int 30, .int 0, .null, .null], vm := .none },
  { cls := 6, slots := #[.null, .int 31, .int 0, .null, .null], vm := .none },
  { cls := 6, slots := #[.null, .int 32, .int 0, .null, .null], vm := .none },
  { cls := 6, slots := #[.null, .int 33, .int 0, .null, .null], vm := .none },
  { cls := 6, slots := #[.null, .int 34, .int 0, .null, .null], vm := .none },
  { cls := 6, slots := #[.null, .int 35, .int 0, .null, .null], vm := .none },
  { cls := 6, slots := #[.null, .int 36, .int 0, .null, .null], vm := .none }]
def classes : Array Class := #[k0, k1, k2, k3, k4, k5, k6, k7, k8, k9, k10, k11]
def interned : List (Array UInt16 × Addr) := []
def slotsUsed : Nat := 224
def theMethod : MethodId := ⟨1, 1⟩
def args0 : Array Value := #[.int 5]
def aboutOver (below : List Frame) : State where
  vm := { classes := classes, interned := interned.toArray }
  heap := heap
  slotsUsed := slotsUsed
  threads := #[{ frames := .invoking theMethod args0 :: below }]
def below0 : List Frame := [.native { method := ⟨0, 0⟩, args := #[] }]
def about1 : State := aboutOver below0
def p0 : Program := .bare "" "" ""
def e0 : Env := launch0.env 0 0 0
theorem w_frames : about1.frames = Frame.invoking theMethod args0 :: below0 := rfl
set_option maxRecDepth 65536 in
theorem w_args : argsFit about1.vm theMethod args0 = true := by decide +kernel
set_option maxRecDepth 65536 in
theorem w_heap : heapFits about1 = true := by decide +kernel
set_option maxRecDepth 65536 in
theorem w_runnable : about1.curStatus? = some .runnable := by decide +kernel
set_option maxRecDepth 65536 in
theorem w_alone : about1.alone = true := by decide +kernel
set_option maxRecDepth 65536 in
theorem w_named : about1.methodNamed? x = some theMethod := by decide +kernel
set_option maxRecDepth 65536 in
theorem w_hears : about1.hears theMethod below0 = true := by decide +kernel
set_option maxRecDepth 65536 in
theorem w_ripe : about1.ripe theMethod args0 below0 = true := by decide +kernel
theorem w_running : about1.status = .running := rfl
set_option maxRecDepth 65536 in
theorem w_room : about1.hasRoom e0.platform room_1 = true :=
  launch0.hasRoom_least _ room_1 (by decide +kernel) (by decide +kernel) (by decide +kernel) (by decide +kernel) (by decide +kernel) (by decide +kernel)
theorem allAtoms_all (ts : List Jvm.Cond) (a : Array Jvm.Value) (st : Jvm.State) : (allAtoms ts).before a st = ts.all (fun c => c.before a st) := by
  induction ts with
  | nil => rfl
  | cons c t ih =>
    show (Jvm.Cond.and c (allAtoms t)).before a st = _
    rw [Jvm.Cond.before_and, ih, List.all_cons]
def words1 : List Jvm.Cond := Jvm.Cond.code x code maxLocals ret :: tables_1
/-- a 'code' word, met by the world's own term for the bytes: nothing is compared byte by byte -/
theorem code_word {y : MethodName} {bytes : ByteArray} {mx : Nat} {rt : Option FieldType} {a : Array Value} {s : State} {m : MethodId} {meth : Method} {c : Code} (h1 : s.methodNamed? y = some m) (h2 : s.vm.method? m = some meth) (h3 : meth.code = some c) (h4 : c.code = bytes)
    (h5 : (c.maxLocals == mx && c.exceptionTable.isEmpty && decide (c.maxStack ≤ mostOperands) && decide (meth.sig.returnType = rt) && !meth.locks && decide (parseMethodDescriptor y.desc = some meth.sig)) = true) : (Jvm.Cond.code y bytes mx rt).before a s = true := by
  simp only [Bool.and_eq_true, beq_iff_eq, Bool.not_eq_true', decide_eq_true_eq] at h5
  obtain ⟨⟨⟨⟨⟨g1, g2⟩, g3⟩, g4⟩, g5⟩, g6⟩ := h5
  simp [Cond.before, Cond.holds, Cond.value, h1, h2, h3, h4, g1, g2, g3, g4, g5, g6]
def isCode : Jvm.Cond → Bool
  | .code _ _ _ _ => true
  | _ => false
theorem all_split {L : List Jvm.Cond} {P : Jvm.Cond → Bool} (h1 : L.all (fun c => isCode c || P c) = true) (h2 : ∀ c ∈ L.filter isCode, P c = true) : L.all P = true := by
  refine List.all_eq_true.mpr fun c hc => ?_
  have h := List.all_eq_true.mp h1 c hc
  rcases Bool.eq_false_or_eq_true (isCode c) with hi | hi
  · exact h2 c (List.mem_filter.mpr ⟨hc, hi⟩)
  · simpa [hi] using h
set_option maxRecDepth 65536 in
theorem w_c0 : (Jvm.Cond.code x code maxLocals ret).before args0 about1 = true := code_word (m := ⟨1, 1⟩) (meth := k1m1) (c := k1c1) (by decide +kernel) rfl rfl rfl (by decide +kernel)
set_option maxRecDepth 65536 in
theorem w_c1 : (Jvm.Cond.code ({ cls := "se/bryggan/saml/EidAttributeIsScopedPinLaw", name := "pick", desc := "(I)Lse/bryggan/saml/EidAttribute;" } : Jvm.MethodName) method_3_code (1 : Nat) (Option.some (Jvm.ClassFile.FieldType.object "se/bryggan/saml/EidAttribute"))).before args0 about1 = true := code_word (m := ⟨1, 2⟩) (meth := k1m2) (c := k1c2) (by decide +kernel) rfl rfl rfl (by decide +kernel)
set_option maxRecDepth 65536 in
theorem w_c2 : (Jvm.Cond.code ({ cls := "se/bryggan/saml/EidAttribute", name := "isScoped", desc := "()Z" } : Jvm.MethodName) prog_20_method_7_code (1 : Nat) (Option.some Jvm.ClassFile.FieldType.boolean)).before args0 about1 = true := code_word (m := ⟨6, 0⟩) (meth := k6m0) (c := k6c0) (by decide +kernel) rfl rfl rfl (by decide +kernel)
def codes1 : List Jvm.Cond := [Jvm.Cond.code x code maxLocals ret, Jvm.Cond.code ({ cls := "se/bryggan/saml/EidAttributeIsScopedPinLaw", name := "pick", desc := "(I)Lse/bryggan/saml/EidAttribute;" } : Jvm.MethodName) method_3_code (1 : Nat) (Option.some (Jvm.ClassFile.FieldType.object "se/bryggan/saml/EidAttribute")), Jvm.Cond.code ({ cls := "se/bryggan/saml/EidAttribute", name := "isScoped", desc := "()Z" } : Jvm.MethodName) prog_20_method_7_code (1 : Nat) (Option.some Jvm.ClassFile.FieldType.boolean)]
set_option maxRecDepth 65536 in
theorem codes_eq : words1.filter isCode = codes1 := rfl
theorem w_codes : ∀ c ∈ words1.filter isCode, c.before args0 about1 = true := by
  rw [codes_eq]
  intro c hc
  simp only [codes1, List.mem_cons, List.not_mem_nil, or_false] at hc
  rcases hc with rfl | rfl | rfl
  · exact w_c0
  · exact w_c1
  · exact w_c2
set_option maxRecDepth 65536 in
theorem w_t1 : (words1.take 24).all (fun c => isCode c || c.before args0 about1) = true := by decide +kernel
set_option maxRecDepth 65536 in
theorem w_t2 : ((words1.drop 24).take 24).all (fun c => isCode c || c.before args0 about1) = true := by decide +kernel
set_option maxRecDepth 65536 in
theorem w_t3 : (((words1.drop 24).drop 24).take 24).all (fun c => isCode c || c.before args0 about1) = true := by decide +kernel
set_option maxRecDepth 65536 in
theorem w_t4 : (((words1.drop 24).drop 24).drop 24).all (fun c => isCode c || c.before args0 about1) = true := by decide +kernel
theorem w_tables : (allAtoms (Jvm.Cond.code x code maxLocals ret :: tables_1)).before args0 about1 = true := by
  rw [allAtoms_all]
  show words1.all (fun c => c.before args0 about1) = true
  refine all_split ?_ w_codes
  rw [← List.take_append_drop 24 words1, List.all_append, w_t1, ← List.take_append_drop 24 (words1.drop 24), List.all_append, w_t2, ← List.take_append_drop 24 ((words1.drop 24).drop 24), List.all_append, w_t3, w_t4]
  rfl
set_option maxRecDepth 65536 in
theorem w_case : (Jvm.Cond.and given_1 narrow_1).before args0 about1 = true := by decide +kernel
theorem w_applies : (headSpec (Jvm.Cond.code x code maxLocals ret :: tables_1) room_1).applies x e0.platform about1 = true :=
  (Spec.applies_iff w_frames).mpr ⟨w_running, w_runnable, w_alone, w_named, w_hears, w_ripe, w_room, w_tables⟩
theorem atStart : AtStart classFile x code maxLocals ret World_1 tables_1 room_1 Calls_1 rest_1 Pre_1 launch0 p0 e0 about1 theMethod args0 below0 :=
  ⟨lists_1, trivial, launch0.admits_env _ _ _, launch0.least_env, fairChoices_fair.cas, fairChoices_fair.clock, w_frames, w_args, w_heap, w_applies, trivial, trivial, w_case⟩
end start1
theorem witness_1 : WitnessClaimed_1 := ⟨start1.p0, start1.e0, start1.about1, start1.theMethod, start1.args0, start1.below0, start1.atStart⟩
end Jvm.Pilot.@@N@@
