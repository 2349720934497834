import JvmDerived
import JvmDerived.Pilot.@@N@@Statement
import JvmDerived.Pilot.@@N@@Code
set_option linter.unusedVariables false
set_option linter.unusedSimpArgs false
namespace Jvm.RoadKit
open Sem ClassFile Op Lib Jvm.Stand Jvm.Free Jvm.LawKit
section Own
variable {p : Program} {l : Launch} {e : Env} {R : Room} {s : State} {m : MethodId} {args : Array Value} {below : List Frame} {meth : Method} {c : Code} {T : State} {locs : List Loc} {cells slots : Nat} {Z : State} {a0 : Array Value} {h : Heap}
/-- from T with the frame g on top the run comes back with what Q says -/
def Go (p : Program) (e : Env) (below : List Frame) (Fin' : Outcome → State → Prop) (T : State) (g : JFrame) : Prop :=
  ∃ s₂ o, Steps p.tables e below (T.setTop g) s₂ ∧ s₂.status = .running ∧ Ended s₂ below o ∧ Fin' o s₂
/-- how a body ends -/
def Fn (s : State) (RC RS : Nat) (Q : Option Value → Heap → List Loc → Prop) (o : Outcome) (t : State) : Prop := ∃ v L, o = .returned v ∧ Q v t.heap L ∧ FrameEnd s o t L RC RS
/-- what stands fast through a body's walk -/
def Cx (p : Program) (s : State) (m : MethodId) (meth : Method) (c : Code) (Z : State) (own nm : String) (bytes : ByteArray) (maxL : Nat) (ret : Option FieldType) : Prop :=
  p.tables.exec = Jvm.exec ∧ Z.Warmed39 s.vm ∧ s.vm.findClass own = some m.cls ∧ c.code = bytes ∧ c.maxLocals = maxL ∧ meth.sig.returnType = ret ∧ meth.name = nm ∧ meth.locks = false
variable {RC RS : Nat} {Q : Option Value → Heap → List Loc → Prop} {Fin' : Outcome → State → Prop} {own nm : String} {bytes : ByteArray} {maxL : Nat} {ret : Option FieldType} {pc pc' : Nat} {Ls Ls' : Array Slot} {S : List Value}
theorem Go.via {T' : State} {g g' : JFrame} (G : Go p e below Fin' T' g') (k : ∀ t, Steps p.tables e below (T'.setTop g') t → Steps p.tables e below (T.setTop g) t) : Go p e below Fin' T g := by
  obtain ⟨s₂, o, st, r⟩ := G; exact ⟨s₂, o, k _ st, r⟩
theorem Go.cast {g g' : JFrame} (q : g = g') (G : Go p e below Fin' T g') : Go p e below Fin' T g := q ▸ G
/-- a body's contract -/
def Met1 (l : Launch) (Z : State) (y : MethodName) (bytes : ByteArray) (maxL : Nat) (ret : Option FieldType) (rm : Room) (as' : Array Value) (h0 : Heap) (Q : Option Value → Heap → List Loc → Prop) : Prop :=
  ∀ ws : List Jvm.Cond, MetFree l y (head1 (Jvm.Cond.code y bytes maxL ret :: ws) rm) (fun a U => a = as' ∧ Z.Warmed39 U.vm ∧ U.heap = h0) (fun _ _ _ _ _ => True) (fun _ U o U' => ∃ v L, o = .returned v ∧ Q v U'.heap L ∧ FrameEnd U o U' L rm.cells rm.slots)
theorem Met1.of_body {y : MethodName} {rm : Room} {as' : Array Value} {h0 : Heap} (hp : plainFor y = true) (ef : ∀ m, entryFrame m as' maxL = mkF m 0 Ls [])
    (body : ∀ {p : Program} {e : Env} {s : State} {m : MethodId} {below : List Frame} {meth : Method} {c : Code} {T : State}, Cx p s m meth c Z y.cls y.name bytes maxL ret → Stand p l e rm s m as' below meth c T [] 0 0 → T.heap = h0 → Go p e below (Fn s rm.cells rm.slots Q) T (mkF m 0 Ls [])) :
    Met1 l Z y bytes maxL ret rm as' h0 Q := by
  intro ws
  refine MetFree.of_bodySF hp hisR ?_
  intro p e s m args below meth c s₁ Bd hml0 hP hK
  obtain ⟨rfl, hZ, hh⟩ := hP
  have X0 : Stand p l e rm s m args below meth c s₁ [] 0 0 := Stand.of_body Bd
  have hlk : meth.locks = false := BodyLoose.notSynchronized Bd
  obtain ⟨s₂, o, st, r1, r2, r3⟩ := body (p := p) (e := e) (s := s) (m := m) (below := below) (meth := meth) (c := c) (T := s₁) ⟨Bd.exec, hZ, findClass_of_methodNamed Bd.named, Bd.bytes, hml0, Bd.returns, (name_of_methodNamed Bd.named Bd.method).1, hlk⟩ X0 (by rw [← hh, Bd.state]; rfl)
  exact ⟨s₂, o, castTop (ef m) st, r1, r2, r3⟩
/-- a contract may say less -/
theorem Met1.weak {y : MethodName} {rm : Room} {as' : Array Value} {h0 : Heap} {Q' : Option Value → Heap → List Loc → Prop} (M : Met1 l Z y bytes maxL ret rm as' h0 Q) (q : ∀ v h L, Q v h L → Q' v h L) : Met1 l Z y bytes maxL ret rm as' h0 Q' := by
  intro ws p e ha hc hk s m args below hf happ hP hK
  obtain ⟨n, o, h1, h2, h3, v, L, h4, h5, h6⟩ := M ws p e ha hc hk s m args below hf happ hP hK
  exact ⟨n, o, h1, h2, h3, v, L, h4, q _ _ _ h5, h6⟩

/-! plain steps -/
theorem Go.aloadN (C : Cx p s m meth c Z own nm bytes maxL ret) (X : Stand p l e R s m args below meth c T locs cells slots) {k : Fin 4} {v : Value} (hd : decode bytes pc = .ok (.aload_n k, 1)) (hl : Ls[k.val]? = some (.val v)) (hv : v.isRef = true) (hp : pc + 1 = pc') (G : Go p e below Fin' T (mkF m pc' Ls (v :: S))) : Go p e below Fin' T (mkF m pc Ls S) := by
  subst hp; exact G.via fun _ k => XS.aloadN X.here C.1 rfl (hb C.2.2.2.1 hd) hl hv k
theorem Go.aload (C : Cx p s m meth c Z own nm bytes maxL ret) (X : Stand p l e R s m args below meth c T locs cells slots) {k : Nat} {v : Value} (hd : decode bytes pc = .ok (.aload k, 2)) (hl : Ls[k]? = some (.val v)) (hv : v.isRef = true) (hp : pc + 2 = pc') (G : Go p e below Fin' T (mkF m pc' Ls (v :: S))) : Go p e below Fin' T (mkF m pc Ls S) := by
  subst hp; exact G.via fun _ k => XS.aload X.here C.1 rfl (hb C.2.2.2.1 hd) hl hv k
theorem Go.iloadN (C : Cx p s m meth c Z own nm bytes maxL ret) (X : Stand p l e R s m args below meth c T locs cells slots) {k : Fin 4} {v : Int32} (hd : decode bytes pc = .ok (.iload_n k, 1)) (hl : Ls[k.val]? = some (.val (.int v))) (hp : pc + 1 = pc') (G : Go p e below Fin' T (mkF m pc' Ls (.int v :: S))) : Go p e below Fin' T (mkF m pc Ls S) := by
  subst hp; exact G.via fun _ k => XS.iloadN X.here C.1 rfl (hb C.2.2.2.1 hd) hl k
theorem Go.iload (C : Cx p s m meth c Z own nm bytes maxL ret) (X : Stand p l e R s m args below meth c T locs cells slots) {k : Nat} {v : Int32} (hd : decode bytes pc = .ok (.iload k, 2)) (hl : Ls[k]? = some (.val (.int v))) (hp : pc + 2 = pc') (G : Go p e below Fin' T (mkF m pc' Ls (.int v :: S))) : Go p e below Fin' T (mkF m pc Ls S) := by
  subst hp; exact G.via fun _ k => XS.iload X.here C.1 rfl (hb C.2.2.2.1 hd) hl k
theorem Go.istoreN (C : Cx p s m meth c Z own nm bytes maxL ret) (X : Stand p l e R s m args below meth c T locs cells slots) {k : Fin 4} {v : Int32} (hd : decode bytes pc = .ok (.istore_n k, 1)) (hl : storeLocals Ls k.val (.int v) = some Ls') (hp : pc + 1 = pc') (G : Go p e below Fin' T (mkF m pc' Ls' S)) : Go p e below Fin' T (mkF m pc Ls (.int v :: S)) := by
  subst hp; exact G.via fun _ k => XS.istoreN X.here C.1 rfl (hb C.2.2.2.1 hd) rfl hl k
theorem Go.istore (C : Cx p s m meth c Z own nm bytes maxL ret) (X : Stand p l e R s m args below meth c T locs cells slots) {k : Nat} {v : Int32} (hd : decode bytes pc = .ok (.istore k, 2)) (hl : storeLocals Ls k (.int v) = some Ls') (hp : pc + 2 = pc') (G : Go p e below Fin' T (mkF m pc' Ls' S)) : Go p e below Fin' T (mkF m pc Ls (.int v :: S)) := by
  subst hp; exact G.via fun _ k => XS.istore X.here C.1 rfl (hb C.2.2.2.1 hd) rfl hl k
theorem Go.lloadN (C : Cx p s m meth c Z own nm bytes maxL ret) (X : Stand p l e R s m args below meth c T locs cells slots) {k : Fin 4} {v : Int64} (hd : decode bytes pc = .ok (.lload_n k, 1)) (hl : Ls[k.val]? = some (.val (.long v))) (hp : pc + 1 = pc') (G : Go p e below Fin' T (mkF m pc' Ls (.long v :: S))) : Go p e below Fin' T (mkF m pc Ls S) := by
  subst hp; exact G.via fun _ k => XS.lloadN X.here C.1 rfl (hb C.2.2.2.1 hd) hl k
theorem Go.lload (C : Cx p s m meth c Z own nm bytes maxL ret) (X : Stand p l e R s m args below meth c T locs cells slots) {k : Nat} {v : Int64} (hd : decode bytes pc = .ok (.lload k, 2)) (hl : Ls[k]? = some (.val (.long v))) (hp : pc + 2 = pc') (G : Go p e below Fin' T (mkF m pc' Ls (.long v :: S))) : Go p e below Fin' T (mkF m pc Ls S) := by
  subst hp; exact G.via fun _ k => XS.lload X.here C.1 rfl (hb C.2.2.2.1 hd) hl k
theorem Go.lstoreN (C : Cx p s m meth c Z own nm bytes maxL ret) (X : Stand p l e R s m args below meth c T locs cells slots) {k : Fin 4} {v : Int64} (hd : decode bytes pc = .ok (.lstore_n k, 1)) (hl : storeLocals Ls k.val (.long v) = some Ls') (hp : pc + 1 = pc') (G : Go p e below Fin' T (mkF m pc' Ls' S)) : Go p e below Fin' T (mkF m pc Ls (.long v :: S)) := by
  subst hp; exact G.via fun _ k => XS.lstoreN X.here C.1 rfl (hb C.2.2.2.1 hd) rfl hl k
theorem Go.lstore (C : Cx p s m meth c Z own nm bytes maxL ret) (X : Stand p l e R s m args below meth c T locs cells slots) {k : Nat} {v : Int64} (hd : decode bytes pc = .ok (.lstore k, 2)) (hl : storeLocals Ls k (.long v) = some Ls') (hp : pc + 2 = pc') (G : Go p e below Fin' T (mkF m pc' Ls' S)) : Go p e below Fin' T (mkF m pc Ls (.long v :: S)) := by
  subst hp; exact G.via fun _ k => XS.lstore X.here C.1 rfl (hb C.2.2.2.1 hd) rfl hl k
theorem Go.astoreN (C : Cx p s m meth c Z own nm bytes maxL ret) (X : Stand p l e R s m args below meth c T locs cells slots) {k : Fin 4} {v : Value} (hd : decode bytes pc = .ok (.astore_n k, 1)) (hv : v.isRef = true) (hl : storeLocals Ls k.val v = some Ls') (hp : pc + 1 = pc') (G : Go p e below Fin' T (mkF m pc' Ls' S)) : Go p e below Fin' T (mkF m pc Ls (v :: S)) := by
  subst hp; exact G.via fun _ k => XS.astoreN X.here C.1 rfl (hb C.2.2.2.1 hd) rfl hv hl k
theorem Go.astore (C : Cx p s m meth c Z own nm bytes maxL ret) (X : Stand p l e R s m args below meth c T locs cells slots) {k : Nat} {v : Value} (hd : decode bytes pc = .ok (.astore k, 2)) (hv : v.isRef = true) (hl : storeLocals Ls k v = some Ls') (hp : pc + 2 = pc') (G : Go p e below Fin' T (mkF m pc' Ls' S)) : Go p e below Fin' T (mkF m pc Ls (v :: S)) := by
  subst hp; exact G.via fun _ k => XS.astore X.here C.1 rfl (hb C.2.2.2.1 hd) rfl hv hl k
theorem Go.iconst (C : Cx p s m meth c Z own nm bytes maxL ret) (X : Stand p l e R s m args below meth c T locs cells slots) {i : Int} {z : Int32} (hd : decode bytes pc = .ok (.iconst i, 1)) (hz : Int32.ofInt i = z) (hp : pc + 1 = pc') (G : Go p e below Fin' T (mkF m pc' Ls (.int z :: S))) : Go p e below Fin' T (mkF m pc Ls S) := by
  subst hp; exact G.via fun _ k => XT.iconstV X.here C.1 rfl z (hb C.2.2.2.1 hd) hz k
theorem Go.bipush (C : Cx p s m meth c Z own nm bytes maxL ret) (X : Stand p l e R s m args below meth c T locs cells slots) {i : Int} {z : Int32} (hd : decode bytes pc = .ok (.bipush i, 2)) (hz : (Int8.ofInt i).toInt32 = z) (hp : pc + 2 = pc') (G : Go p e below Fin' T (mkF m pc' Ls (.int z :: S))) : Go p e below Fin' T (mkF m pc Ls S) := by
  subst hp; exact G.via fun _ k => XT.bipushV X.here C.1 rfl z (hb C.2.2.2.1 hd) hz k
theorem Go.sipush (C : Cx p s m meth c Z own nm bytes maxL ret) (X : Stand p l e R s m args below meth c T locs cells slots) {i : Int} {z : Int32} (hd : decode bytes pc = .ok (.sipush i, 3)) (hz : (Int16.ofInt i).toInt32 = z) (hp : pc + 3 = pc') (G : Go p e below Fin' T (mkF m pc' Ls (.int z :: S))) : Go p e below Fin' T (mkF m pc Ls S) := by
  subst hp; exact G.via fun _ k => XT.sipushV X.here C.1 rfl z (hb C.2.2.2.1 hd) hz k
theorem Go.lconst (C : Cx p s m meth c Z own nm bytes maxL ret) (X : Stand p l e R s m args below meth c T locs cells slots) {i : Fin 2} {z : Int64} (hd : decode bytes pc = .ok (.lconst i, 1)) (hz : Int64.ofNat i = z) (hp : pc + 1 = pc') (G : Go p e below Fin' T (mkF m pc' Ls (.long z :: S))) : Go p e below Fin' T (mkF m pc Ls S) := by
  subst hp; exact G.via fun _ k => XT.lconstV X.here C.1 rfl z (hb C.2.2.2.1 hd) hz k
theorem Go.aconstNull (C : Cx p s m meth c Z own nm bytes maxL ret) (X : Stand p l e R s m args below meth c T locs cells slots)  (hd : decode bytes pc = .ok (.aconst_null, 1))  (hp : pc + 1 = pc') (G : Go p e below Fin' T (mkF m pc' Ls (.null :: S))) : Go p e below Fin' T (mkF m pc Ls S) := by
  subst hp; exact G.via fun _ k => XS.aconstNull X.here C.1 rfl (hb C.2.2.2.1 hd) k
theorem Go.ldcI (C : Cx p s m meth c Z own nm bytes maxL ret) (X : Stand p l e R s m args below meth c T locs cells slots) {i : Nat} {z : Int32} (hd : decode bytes pc = .ok (.ldc i, 2)) (w : (Cond.constant own i z).before a0 Z = true) (hp : pc + 2 = pc') (G : Go p e below Fin' T (mkF m pc' Ls (.int z :: S))) : Go p e below Fin' T (mkF m pc Ls S) := by
  subst hp; exact G.via fun _ k => X.ldcI C.1 C.2.2.1 (mvT C.2.1 w) rfl (hb C.2.2.2.1 hd) k
theorem Go.ldcWI (C : Cx p s m meth c Z own nm bytes maxL ret) (X : Stand p l e R s m args below meth c T locs cells slots) {i : Nat} {z : Int32} (hd : decode bytes pc = .ok (.ldc_w i, 3)) (w : (Cond.constant own i z).before a0 Z = true) (hp : pc + 3 = pc') (G : Go p e below Fin' T (mkF m pc' Ls (.int z :: S))) : Go p e below Fin' T (mkF m pc Ls S) := by
  subst hp; exact G.via (X.ldcwInt C.1 C.2.2.1 (mvT C.2.1 w) (g := mkF m pc Ls S) rfl (hb C.2.2.2.1 hd))
theorem Go.ldc2J (C : Cx p s m meth c Z own nm bytes maxL ret) (X : Stand p l e R s m args below meth c T locs cells slots) {i : Nat} {z : Int64} (hd : decode bytes pc = .ok (.ldc2_w i, 3)) (w : (Cond.constantLong own i z).before a0 Z = true) (hp : pc + 3 = pc') (G : Go p e below Fin' T (mkF m pc' Ls (.long z :: S))) : Go p e below Fin' T (mkF m pc Ls S) := by
  subst hp; exact G.via fun _ k => X.ldc2J C.1 C.2.2.1 (mvT C.2.1 w) rfl (hb C.2.2.2.1 hd) k
theorem Go.iadd (C : Cx p s m meth c Z own nm bytes maxL ret) (X : Stand p l e R s m args below meth c T locs cells slots) {x y : Int32} (hd : decode bytes pc = .ok (.iadd, 1))  (hp : pc + 1 = pc') (G : Go p e below Fin' T (mkF m pc' Ls (.int (x + y) :: S))) : Go p e below Fin' T (mkF m pc Ls (.int y :: .int x :: S)) := by
  subst hp; exact G.via fun _ k => XS.iadd X.here C.1 rfl (hb C.2.2.2.1 hd) rfl k
theorem Go.ladd (C : Cx p s m meth c Z own nm bytes maxL ret) (X : Stand p l e R s m args below meth c T locs cells slots) {x y : Int64} (hd : decode bytes pc = .ok (.ladd, 1))  (hp : pc + 1 = pc') (G : Go p e below Fin' T (mkF m pc' Ls (.long (x + y) :: S))) : Go p e below Fin' T (mkF m pc Ls (.long y :: .long x :: S)) := by
  subst hp; exact G.via fun _ k => XS.ladd X.here C.1 rfl (hb C.2.2.2.1 hd) rfl k
theorem Go.isub (C : Cx p s m meth c Z own nm bytes maxL ret) (X : Stand p l e R s m args below meth c T locs cells slots) {x y : Int32} (hd : decode bytes pc = .ok (.isub, 1))  (hp : pc + 1 = pc') (G : Go p e below Fin' T (mkF m pc' Ls (.int (x - y) :: S))) : Go p e below Fin' T (mkF m pc Ls (.int y :: .int x :: S)) := by
  subst hp; exact G.via fun _ k => XS.isub X.here C.1 rfl (hb C.2.2.2.1 hd) rfl k
theorem Go.lsub (C : Cx p s m meth c Z own nm bytes maxL ret) (X : Stand p l e R s m args below meth c T locs cells slots) {x y : Int64} (hd : decode bytes pc = .ok (.lsub, 1))  (hp : pc + 1 = pc') (G : Go p e below Fin' T (mkF m pc' Ls (.long (x - y) :: S))) : Go p e below Fin' T (mkF m pc Ls (.long y :: .long x :: S)) := by
  subst hp; exact G.via fun _ k => XS.lsub X.here C.1 rfl (hb C.2.2.2.1 hd) rfl k
theorem Go.imul (C : Cx p s m meth c Z own nm bytes maxL ret) (X : Stand p l e R s m args below meth c T locs cells slots) {x y : Int32} (hd : decode bytes pc = .ok (.imul, 1))  (hp : pc + 1 = pc') (G : Go p e below Fin' T (mkF m pc' Ls (.int (x * y) :: S))) : Go p e below Fin' T (mkF m pc Ls (.int y :: .int x :: S)) := by
  subst hp; exact G.via fun _ k => XS.imul X.here C.1 rfl (hb C.2.2.2.1 hd) rfl k
theorem Go.lmul (C : Cx p s m meth c Z own nm bytes maxL ret) (X : Stand p l e R s m args below meth c T locs cells slots) {x y : Int64} (hd : decode bytes pc = .ok (.lmul, 1))  (hp : pc + 1 = pc') (G : Go p e below Fin' T (mkF m pc' Ls (.long (x * y) :: S))) : Go p e below Fin' T (mkF m pc Ls (.long y :: .long x :: S)) := by
  subst hp; exact G.via fun _ k => XS.lmul X.here C.1 rfl (hb C.2.2.2.1 hd) rfl k
theorem Go.iand (C : Cx p s m meth c Z own nm bytes maxL ret) (X : Stand p l e R s m args below meth c T locs cells slots) {x y : Int32} (hd : decode bytes pc = .ok (.iand, 1))  (hp : pc + 1 = pc') (G : Go p e below Fin' T (mkF m pc' Ls (.int (x &&& y) :: S))) : Go p e below Fin' T (mkF m pc Ls (.int y :: .int x :: S)) := by
  subst hp; exact G.via fun _ k => XS.iand X.here C.1 rfl (hb C.2.2.2.1 hd) rfl k
theorem Go.land (C : Cx p s m meth c Z own nm bytes maxL ret) (X : Stand p l e R s m args below meth c T locs cells slots) {x y : Int64} (hd : decode bytes pc = .ok (.land, 1))  (hp : pc + 1 = pc') (G : Go p e below Fin' T (mkF m pc' Ls (.long (x &&& y) :: S))) : Go p e below Fin' T (mkF m pc Ls (.long y :: .long x :: S)) := by
  subst hp; exact G.via fun _ k => XS.land X.here C.1 rfl (hb C.2.2.2.1 hd) rfl k
theorem Go.ior (C : Cx p s m meth c Z own nm bytes maxL ret) (X : Stand p l e R s m args below meth c T locs cells slots) {x y : Int32} (hd : decode bytes pc = .ok (.ior, 1))  (hp : pc + 1 = pc') (G : Go p e below Fin' T (mkF m pc' Ls (.int (x ||| y) :: S))) : Go p e below Fin' T (mkF m pc Ls (.int y :: .int x :: S)) := by
  subst hp; exact G.via fun _ k => XS.ior X.here C.1 rfl (hb C.2.2.2.1 hd) rfl k
theorem Go.lor (C : Cx p s m meth c Z own nm bytes maxL ret) (X : Stand p l e R s m args below meth c T locs cells slots) {x y : Int64} (hd : decode bytes pc = .ok (.lor, 1))  (hp : pc + 1 = pc') (G : Go p e below Fin' T (mkF m pc' Ls (.long (x ||| y) :: S))) : Go p e below Fin' T (mkF m pc Ls (.long y :: .long x :: S)) := by
  subst hp; exact G.via fun _ k => XS.lor X.here C.1 rfl (hb C.2.2.2.1 hd) rfl k
theorem Go.ixor (C : Cx p s m meth c Z own nm bytes maxL ret) (X : Stand p l e R s m args below meth c T locs cells slots) {x y : Int32} (hd : decode bytes pc = .ok (.ixor, 1))  (hp : pc + 1 = pc') (G : Go p e below Fin' T (mkF m pc' Ls (.int (x ^^^ y) :: S))) : Go p e below Fin' T (mkF m pc Ls (.int y :: .int x :: S)) := by
  subst hp; exact G.via fun _ k => XS.ixor X.here C.1 rfl (hb C.2.2.2.1 hd) rfl k
theorem Go.lxor (C : Cx p s m meth c Z own nm bytes maxL ret) (X : Stand p l e R s m args below meth c T locs cells slots) {x y : Int64} (hd : decode bytes pc = .ok (.lxor, 1))  (hp : pc + 1 = pc') (G : Go p e below Fin' T (mkF m pc' Ls (.long (x ^^^ y) :: S))) : Go p e below Fin' T (mkF m pc Ls (.long y :: .long x :: S)) := by
  subst hp; exact G.via fun _ k => XS.lxor X.here C.1 rfl (hb C.2.2.2.1 hd) rfl k
theorem Go.ishl (C : Cx p s m meth c Z own nm bytes maxL ret) (X : Stand p l e R s m args below meth c T locs cells slots) {x y : Int32} (hd : decode bytes pc = .ok (.ishl, 1))  (hp : pc + 1 = pc') (G : Go p e below Fin' T (mkF m pc' Ls (.int (x <<< (y &&& 31)) :: S))) : Go p e below Fin' T (mkF m pc Ls (.int y :: .int x :: S)) := by
  subst hp; exact G.via fun _ k => XS.ishl X.here C.1 rfl (hb C.2.2.2.1 hd) rfl k
theorem Go.ishr (C : Cx p s m meth c Z own nm bytes maxL ret) (X : Stand p l e R s m args below meth c T locs cells slots) {x y : Int32} (hd : decode bytes pc = .ok (.ishr, 1))  (hp : pc + 1 = pc') (G : Go p e below Fin' T (mkF m pc' Ls (.int (x >>> (y &&& 31)) :: S))) : Go p e below Fin' T (mkF m pc Ls (.int y :: .int x :: S)) := by
  subst hp; exact G.via fun _ k => XS.ishr X.here C.1 rfl (hb C.2.2.2.1 hd) rfl k
theorem Go.iushr (C : Cx p s m meth c Z own nm bytes maxL ret) (X : Stand p l e R s m args below meth c T locs cells slots) {x y : Int32} (hd : decode bytes pc = .ok (.iushr, 1))  (hp : pc + 1 = pc') (G : Go p e below Fin' T (mkF m pc' Ls (.int ((x.toUInt32 >>> (y &&& 31).toUInt32).toInt32) :: S))) : Go p e below Fin' T (mkF m pc Ls (.int y :: .int x :: S)) := by
  subst hp; exact G.via fun _ k => XS.iushr X.here C.1 rfl (hb C.2.2.2.1 hd) rfl k
theorem Go.lshl (C : Cx p s m meth c Z own nm bytes maxL ret) (X : Stand p l e R s m args below meth c T locs cells slots) {x : Int64} {y : Int32} (hd : decode bytes pc = .ok (.lshl, 1))  (hp : pc + 1 = pc') (G : Go p e below Fin' T (mkF m pc' Ls (.long (x <<< (y &&& 0x3f).toInt64) :: S))) : Go p e below Fin' T (mkF m pc Ls (.int y :: .long x :: S)) := by
  subst hp; exact G.via fun _ k => XS.lshl X.here C.1 rfl (hb C.2.2.2.1 hd) rfl k
theorem Go.lshr (C : Cx p s m meth c Z own nm bytes maxL ret) (X : Stand p l e R s m args below meth c T locs cells slots) {x : Int64} {y : Int32} (hd : decode bytes pc = .ok (.lshr, 1))  (hp : pc + 1 = pc') (G : Go p e below Fin' T (mkF m pc' Ls (.long (x >>> (y &&& 0x3f).toInt64) :: S))) : Go p e below Fin' T (mkF m pc Ls (.int y :: .long x :: S)) := by
  subst hp; exact G.via fun _ k => XS.lshr X.here C.1 rfl (hb C.2.2.2.1 hd) rfl k
theorem Go.lushr (C : Cx p s m meth c Z own nm bytes maxL ret) (X : Stand p l e R s m args below meth c T locs cells slots) {x : Int64} {y : Int32} (hd : decode bytes pc = .ok (.lushr, 1))  (hp : pc + 1 = pc') (G : Go p e below Fin' T (mkF m pc' Ls (.long ((x.toUInt64 >>> (y &&& 0x3f).toInt64.toUInt64).toInt64) :: S))) : Go p e below Fin' T (mkF m pc Ls (.int y :: .long x :: S)) := by
  subst hp; exact G.via fun _ k => XS.lushr X.here C.1 rfl (hb C.2.2.2.1 hd) rfl k
theorem Go.idiv (C : Cx p s m meth c Z own nm bytes maxL ret) (X : Stand p l e R s m args below meth c T locs cells slots) {x y : Int32} (hd : decode bytes pc = .ok (.idiv, 1)) (hy : y ≠ 0) (hp : pc + 1 = pc') (G : Go p e below Fin' T (mkF m pc' Ls (.int (x / y) :: S))) : Go p e below Fin' T (mkF m pc Ls (.int y :: .int x :: S)) := by
  subst hp; exact G.via fun _ k => XS.idiv X.here C.1 rfl (hb C.2.2.2.1 hd) rfl hy k
theorem Go.irem (C : Cx p s m meth c Z own nm bytes maxL ret) (X : Stand p l e R s m args below meth c T locs cells slots) {x y : Int32} (hd : decode bytes pc = .ok (.irem, 1)) (hy : y ≠ 0) (hp : pc + 1 = pc') (G : Go p e below Fin' T (mkF m pc' Ls (.int (x % y) :: S))) : Go p e below Fin' T (mkF m pc Ls (.int y :: .int x :: S)) := by
  subst hp; exact G.via fun _ k => iremM X C.1 rfl (hb C.2.2.2.1 hd) rfl hy k
theorem Go.ldiv (C : Cx p s m meth c Z own nm bytes maxL ret) (X : Stand p l e R s m args below meth c T locs cells slots) {x y : Int64} (hd : decode bytes pc = .ok (.ldiv, 1)) (hy : y ≠ 0) (hp : pc + 1 = pc') (G : Go p e below Fin' T (mkF m pc' Ls (.long (x / y) :: S))) : Go p e below Fin' T (mkF m pc Ls (.long y :: .long x :: S)) := by
  subst hp; exact G.via fun _ k => XS.ldiv X.here C.1 rfl (hb C.2.2.2.1 hd) rfl hy k
theorem Go.ineg (C : Cx p s m meth c Z own nm bytes maxL ret) (X : Stand p l e R s m args below meth c T locs cells slots) {x : Int32} (hd : decode bytes pc = .ok (.ineg, 1))  (hp : pc + 1 = pc') (G : Go p e below Fin' T (mkF m pc' Ls (.int (-x) :: S))) : Go p e below Fin' T (mkF m pc Ls (.int x :: S)) := by
  subst hp; exact G.via fun _ k => XS.ineg X.here C.1 rfl (hb C.2.2.2.1 hd) rfl k
theorem Go.lneg (C : Cx p s m meth c Z own nm bytes maxL ret) (X : Stand p l e R s m args below meth c T locs cells slots) {x : Int64} (hd : decode bytes pc = .ok (.lneg, 1))  (hp : pc + 1 = pc') (G : Go p e below Fin' T (mkF m pc' Ls (.long (-x) :: S))) : Go p e below Fin' T (mkF m pc Ls (.long x :: S)) := by
  subst hp; exact G.via fun _ k => XS.lneg X.here C.1 rfl (hb C.2.2.2.1 hd) rfl k
theorem Go.i2l (C : Cx p s m meth c Z own nm bytes maxL ret) (X : Stand p l e R s m args below meth c T locs cells slots) {x : Int32} (hd : decode bytes pc = .ok (.i2l, 1))  (hp : pc + 1 = pc') (G : Go p e below Fin' T (mkF m pc' Ls (.long (x.toInt64) :: S))) : Go p e below Fin' T (mkF m pc Ls (.int x :: S)) := by
  subst hp; exact G.via fun _ k => XS.i2l X.here C.1 rfl (hb C.2.2.2.1 hd) rfl k
theorem Go.l2i (C : Cx p s m meth c Z own nm bytes maxL ret) (X : Stand p l e R s m args below meth c T locs cells slots) {x : Int64} (hd : decode bytes pc = .ok (.l2i, 1))  (hp : pc + 1 = pc') (G : Go p e below Fin' T (mkF m pc' Ls (.int (x.toInt32) :: S))) : Go p e below Fin' T (mkF m pc Ls (.long x :: S)) := by
  subst hp; exact G.via fun _ k => XS.l2i X.here C.1 rfl (hb C.2.2.2.1 hd) rfl k
theorem Go.i2b (C : Cx p s m meth c Z own nm bytes maxL ret) (X : Stand p l e R s m args below meth c T locs cells slots) {x : Int32} (hd : decode bytes pc = .ok (.i2b, 1))  (hp : pc + 1 = pc') (G : Go p e below Fin' T (mkF m pc' Ls (.int (x.toInt8.toInt32) :: S))) : Go p e below Fin' T (mkF m pc Ls (.int x :: S)) := by
  subst hp; exact G.via fun _ k => XS.i2b X.here C.1 rfl (hb C.2.2.2.1 hd) rfl k
theorem Go.i2c (C : Cx p s m meth c Z own nm bytes maxL ret) (X : Stand p l e R s m args below meth c T locs cells slots) {x : Int32} (hd : decode bytes pc = .ok (.i2c, 1))  (hp : pc + 1 = pc') (G : Go p e below Fin' T (mkF m pc' Ls (.int (x.toUInt32.toUInt16.toUInt32.toInt32) :: S))) : Go p e below Fin' T (mkF m pc Ls (.int x :: S)) := by
  subst hp; exact G.via fun _ k => XS.i2c X.here C.1 rfl (hb C.2.2.2.1 hd) rfl k
theorem Go.i2s (C : Cx p s m meth c Z own nm bytes maxL ret) (X : Stand p l e R s m args below meth c T locs cells slots) {x : Int32} (hd : decode bytes pc = .ok (.i2s, 1))  (hp : pc + 1 = pc') (G : Go p e below Fin' T (mkF m pc' Ls (.int (x.toInt16.toInt32) :: S))) : Go p e below Fin' T (mkF m pc Ls (.int x :: S)) := by
  subst hp; exact G.via fun _ k => XS.i2s X.here C.1 rfl (hb C.2.2.2.1 hd) rfl k
theorem Go.lcmp (C : Cx p s m meth c Z own nm bytes maxL ret) (X : Stand p l e R s m args below meth c T locs cells slots) {x y : Int64} (hd : decode bytes pc = .ok (.lcmp, 1))  (hp : pc + 1 = pc') (G : Go p e below Fin' T (mkF m pc' Ls (.int (lcmpW x y) :: S))) : Go p e below Fin' T (mkF m pc Ls (.long y :: .long x :: S)) := by
  subst hp; exact G.via fun _ k => XS.lcmp X.here C.1 rfl (hb C.2.2.2.1 hd) rfl k
theorem Go.iinc (C : Cx p s m meth c Z own nm bytes maxL ret) (X : Stand p l e R s m args below meth c T locs cells slots) {k : Nat} {i : Int} {z x : Int32} (hd : decode bytes pc = .ok (.iinc k i, 3)) (hz : Int32.ofInt i = z) (hl : Ls[k]? = some (.val (.int x))) (hl' : storeLocals Ls k (.int (x + z)) = some Ls') (hp : pc + 3 = pc') (G : Go p e below Fin' T (mkF m pc' Ls' S)) : Go p e below Fin' T (mkF m pc Ls S) := by
  subst hp; exact G.via fun _ k => XT.iincV X.here C.1 rfl z (hb C.2.2.2.1 hd) hz hl hl' k
theorem Go.dup (C : Cx p s m meth c Z own nm bytes maxL ret) (X : Stand p l e R s m args below meth c T locs cells slots) {v : Value} (hd : decode bytes pc = .ok (.dup, 1)) (hc : v.category = 1) (hp : pc + 1 = pc') (G : Go p e below Fin' T (mkF m pc' Ls (v :: v :: S))) : Go p e below Fin' T (mkF m pc Ls (v :: S)) := by
  subst hp; exact G.via fun _ k => XS.dup X.here C.1 rfl (hb C.2.2.2.1 hd) rfl hc k
theorem Go.pop (C : Cx p s m meth c Z own nm bytes maxL ret) (X : Stand p l e R s m args below meth c T locs cells slots) {v : Value} (hd : decode bytes pc = .ok (.pop, 1)) (hc : v.category = 1) (hp : pc + 1 = pc') (G : Go p e below Fin' T (mkF m pc' Ls S)) : Go p e below Fin' T (mkF m pc Ls (v :: S)) := by
  subst hp; exact G.via fun _ k => XS.pop X.here C.1 rfl (hb C.2.2.2.1 hd) rfl hc k
theorem Go.dupX1 (C : Cx p s m meth c Z own nm bytes maxL ret) (X : Stand p l e R s m args below meth c T locs cells slots) {v w : Value} (hd : decode bytes pc = .ok (.dup_x1, 1)) (hc : v.category = 1) (hc' : w.category = 1) (hp : pc + 1 = pc') (G : Go p e below Fin' T (mkF m pc' Ls (v :: w :: v :: S))) : Go p e below Fin' T (mkF m pc Ls (v :: w :: S)) := by
  subst hp; exact G.via fun _ k => XS.dupX1 X.here C.1 rfl (hb C.2.2.2.1 hd) rfl hc hc' k
theorem Go.dup2 (C : Cx p s m meth c Z own nm bytes maxL ret) (X : Stand p l e R s m args below meth c T locs cells slots) {v w : Value} (hd : decode bytes pc = .ok (.dup2, 1)) (hc : v.category = 1) (hc' : w.category = 1) (hp : pc + 1 = pc') (G : Go p e below Fin' T (mkF m pc' Ls (v :: w :: v :: w :: S))) : Go p e below Fin' T (mkF m pc Ls (v :: w :: S)) := by
  subst hp; exact G.via fun _ k => XT.dup2 X.here C.1 rfl (hb C.2.2.2.1 hd) rfl hc hc' k
theorem Go.dup2L (C : Cx p s m meth c Z own nm bytes maxL ret) (X : Stand p l e R s m args below meth c T locs cells slots) {x : Int64} (hd : decode bytes pc = .ok (.dup2, 1))  (hp : pc + 1 = pc') (G : Go p e below Fin' T (mkF m pc' Ls (.long x :: .long x :: S))) : Go p e below Fin' T (mkF m pc Ls (.long x :: S)) := by
  subst hp; exact G.via fun _ k => XT.dup2L X.here C.1 rfl (hb C.2.2.2.1 hd) rfl k
theorem Go.goto (C : Cx p s m meth c Z own nm bytes maxL ret) (X : Stand p l e R s m args below meth c T locs cells slots)  {o : Int} (hd : decode bytes pc = .ok (.goto o, 3))  (ho : 0 ≤ (pc : Int) + o) (hp : ((pc : Int) + o).toNat = pc') (G : Go p e below Fin' T (mkF m pc' Ls S)) : Go p e below Fin' T (mkF m pc Ls S) :=
  G.via fun _ k => XS.goto X.here C.1 rfl rfl (hb C.2.2.2.1 hd) ho hp k
theorem Go.ifYes (C : Cx p s m meth c Z own nm bytes maxL ret) (X : Stand p l e R s m args below meth c T locs cells slots) {cd : ClassFile.Cond} {x : Int32} {o : Int} (hd : decode bytes pc = .ok (.ifCond cd o, 3)) (hc : ifCond.holds cd x = true) (ho : 0 ≤ (pc : Int) + o) (hp : ((pc : Int) + o).toNat = pc') (G : Go p e below Fin' T (mkF m pc' Ls S)) : Go p e below Fin' T (mkF m pc Ls (.int x :: S)) :=
  G.via fun _ k => XS.ifYes X.here C.1 rfl rfl (hb C.2.2.2.1 hd) rfl hc ho hp k
theorem Go.ifNo (C : Cx p s m meth c Z own nm bytes maxL ret) (X : Stand p l e R s m args below meth c T locs cells slots) {cd : ClassFile.Cond} {x : Int32} {o : Int} (hd : decode bytes pc = .ok (.ifCond cd o, 3)) (hc : ifCond.holds cd x = false) (hp : pc + 3 = pc') (G : Go p e below Fin' T (mkF m pc' Ls S)) : Go p e below Fin' T (mkF m pc Ls (.int x :: S)) := by
  subst hp; exact G.via fun _ k => XS.ifNo X.here C.1 rfl (hb C.2.2.2.1 hd) rfl hc k
theorem Go.icmpYes (C : Cx p s m meth c Z own nm bytes maxL ret) (X : Stand p l e R s m args below meth c T locs cells slots) {cd : ClassFile.Cond} {x y : Int32} {o : Int} (hd : decode bytes pc = .ok (.if_icmp cd o, 3)) (hc : if_icmp.holds cd x y = true) (ho : 0 ≤ (pc : Int) + o) (hp : ((pc : Int) + o).toNat = pc') (G : Go p e below Fin' T (mkF m pc' Ls S)) : Go p e below Fin' T (mkF m pc Ls (.int y :: .int x :: S)) :=
  G.via fun _ k => XS.icmpYes X.here C.1 rfl rfl (hb C.2.2.2.1 hd) rfl hc ho hp k
theorem Go.icmpNo (C : Cx p s m meth c Z own nm bytes maxL ret) (X : Stand p l e R s m args below meth c T locs cells slots) {cd : ClassFile.Cond} {x y : Int32} {o : Int} (hd : decode bytes pc = .ok (.if_icmp cd o, 3)) (hc : if_icmp.holds cd x y = false) (hp : pc + 3 = pc') (G : Go p e below Fin' T (mkF m pc' Ls S)) : Go p e below Fin' T (mkF m pc Ls (.int y :: .int x :: S)) := by
  subst hp; exact G.via fun _ k => XS.icmpNo X.here C.1 rfl (hb C.2.2.2.1 hd) rfl hc k
theorem Go.ifnullYes (C : Cx p s m meth c Z own nm bytes maxL ret) (X : Stand p l e R s m args below meth c T locs cells slots)  {o : Int} (hd : decode bytes pc = .ok (.ifnull o, 3))  (ho : 0 ≤ (pc : Int) + o) (hp : ((pc : Int) + o).toNat = pc') (G : Go p e below Fin' T (mkF m pc' Ls S)) : Go p e below Fin' T (mkF m pc Ls (.null :: S)) :=
  G.via fun _ k => XS.ifnullYes X.here C.1 rfl rfl (hb C.2.2.2.1 hd) rfl ho hp k
theorem Go.ifnullNo (C : Cx p s m meth c Z own nm bytes maxL ret) (X : Stand p l e R s m args below meth c T locs cells slots) {b : Addr} {o : Int} (hd : decode bytes pc = .ok (.ifnull o, 3))  (hp : pc + 3 = pc') (G : Go p e below Fin' T (mkF m pc' Ls S)) : Go p e below Fin' T (mkF m pc Ls (.ref b :: S)) := by
  subst hp; exact G.via fun _ k => XS.ifnullNo X.here C.1 rfl (hb C.2.2.2.1 hd) rfl k
theorem Go.ifnonnullYes (C : Cx p s m meth c Z own nm bytes maxL ret) (X : Stand p l e R s m args below meth c T locs cells slots) {b : Addr} {o : Int} (hd : decode bytes pc = .ok (.ifnonnull o, 3))  (ho : 0 ≤ (pc : Int) + o) (hp : ((pc : Int) + o).toNat = pc') (G : Go p e below Fin' T (mkF m pc' Ls S)) : Go p e below Fin' T (mkF m pc Ls (.ref b :: S)) :=
  G.via fun _ k => XS.ifnonnullYes X.here C.1 rfl rfl (hb C.2.2.2.1 hd) rfl ho hp k
theorem Go.ifnonnullNo (C : Cx p s m meth c Z own nm bytes maxL ret) (X : Stand p l e R s m args below meth c T locs cells slots)  {o : Int} (hd : decode bytes pc = .ok (.ifnonnull o, 3))  (hp : pc + 3 = pc') (G : Go p e below Fin' T (mkF m pc' Ls S)) : Go p e below Fin' T (mkF m pc Ls (.null :: S)) := by
  subst hp; exact G.via fun _ k => XS.ifnonnullNo X.here C.1 rfl (hb C.2.2.2.1 hd) rfl k
theorem Go.acmpYes (C : Cx p s m meth c Z own nm bytes maxL ret) (X : Stand p l e R s m args below meth c T locs cells slots) {cd : ClassFile.ACond} {v w : Value} {o : Int} (hd : decode bytes pc = .ok (.if_acmp cd o, 3)) (hv : v.isRef = true) (hw : w.isRef = true) (hc : XT.acmp cd v w = true) (ho : 0 ≤ (pc : Int) + o) (hp : ((pc : Int) + o).toNat = pc') (G : Go p e below Fin' T (mkF m pc' Ls S)) : Go p e below Fin' T (mkF m pc Ls (w :: v :: S)) :=
  G.via fun _ k => XT.acmpYes X.here C.1 rfl rfl (hb C.2.2.2.1 hd) rfl hv hw hc ho hp k
theorem Go.acmpNo (C : Cx p s m meth c Z own nm bytes maxL ret) (X : Stand p l e R s m args below meth c T locs cells slots) {cd : ClassFile.ACond} {v w : Value} {o : Int} (hd : decode bytes pc = .ok (.if_acmp cd o, 3)) (hv : v.isRef = true) (hw : w.isRef = true) (hc : XT.acmp cd v w = false) (hp : pc + 3 = pc') (G : Go p e below Fin' T (mkF m pc' Ls S)) : Go p e below Fin' T (mkF m pc Ls (w :: v :: S)) := by
  subst hp; exact G.via fun _ k => XT.acmpNo X.here C.1 rfl (hb C.2.2.2.1 hd) rfl hv hw hc k
theorem Go.tswIn (C : Cx p s m meth c Z own nm bytes maxL ret) (X : Stand p l e R s m args below meth c T locs cells slots) {dflt low high : Int} {offs : Array Int} {len : Nat} {o : Int} {i : Int32} (hd : decode bytes pc = .ok (.tableswitch dflt low high offs, len)) (hin : ¬ (i.toInt < low ∨ i.toInt > high)) (hoff : offs[(i.toInt - low).toNat]? = some o) (ho : 0 ≤ (pc : Int) + o) (hp : ((pc : Int) + o).toNat = pc') (G : Go p e below Fin' T (mkF m pc' Ls S)) : Go p e below Fin' T (mkF m pc Ls (.int i :: S)) :=
  G.via fun _ k => XS.tswIn X.here C.1 rfl rfl (hb C.2.2.2.1 hd) rfl hin hoff ho hp k
theorem Go.tswOut (C : Cx p s m meth c Z own nm bytes maxL ret) (X : Stand p l e R s m args below meth c T locs cells slots) {dflt low high : Int} {offs : Array Int} {len : Nat} {i : Int32} (hd : decode bytes pc = .ok (.tableswitch dflt low high offs, len)) (hout : i.toInt < low ∨ i.toInt > high) (ho : 0 ≤ (pc : Int) + dflt) (hp : ((pc : Int) + dflt).toNat = pc') (G : Go p e below Fin' T (mkF m pc' Ls S)) : Go p e below Fin' T (mkF m pc Ls (.int i :: S)) :=
  G.via fun _ k => XS.tswOut X.here C.1 rfl rfl (hb C.2.2.2.1 hd) rfl hout ho hp k
/-! the returns -/
theorem Go.retV (C : Cx p s m meth c Z own nm bytes maxL ret) (X : Stand p l e R s m args below meth c T locs cells slots)  (hr : ret = none) (hd : decode bytes pc = .ok (.return_, 1))  (hq : Q none T.heap locs) (hc : cells ≤ RC) (hs : slots ≤ RS) : Go p e below (Fn s RC RS Q) T (mkF m pc Ls []) := by
  have hret := C.2.2.2.2.2.1
  have hlk := C.2.2.2.2.2.2.2
  rw [hr] at hret
  obtain ⟨fs, hl, hrun, hended, hW, hsame⟩ := X.leave (v := none) (fun h => by first | rfl | (rw [hret] at h; cases h)) hlk
  exact ⟨_, _, X.returnOut C.1 hret (hb C.2.2.2.1 hd) hl, hrun, hended, _, _, rfl, hq, ⟨_, rfl⟩, hW, hsame.mono hc hs⟩
theorem Go.retN (C : Cx p s m meth c Z own nm bytes maxL ret) (X : Stand p l e R s m args below meth c T locs cells slots) {t : FieldType} {z : Int32} (hr : ret = some t) (hd : decode bytes pc = .ok (.ireturn, 1)) (ht : t = .boolean ∨ t = .byte ∨ t = .char ∨ t = .short) (hq : Q (some (.int (nar t z))) T.heap locs) (hc : cells ≤ RC) (hs : slots ≤ RS) : Go p e below (Fn s RC RS Q) T (mkF m pc Ls (.int z :: S)) := by
  have hret := C.2.2.2.2.2.1
  have hlk := C.2.2.2.2.2.2.2
  rw [hr] at hret
  obtain ⟨fs, hl, hrun, hended, hW, hsame⟩ := X.leave (v := (some (.int (nar t z)))) (fun h => by first | rfl | (rw [hret] at h; cases h)) hlk
  exact ⟨_, _, Jvm.RoadKit.retN X C.1 hret ht (hb C.2.2.2.1 hd) hl, hrun, hended, _, _, rfl, hq, ⟨_, rfl⟩, hW, hsame.mono hc hs⟩
theorem Go.retI (C : Cx p s m meth c Z own nm bytes maxL ret) (X : Stand p l e R s m args below meth c T locs cells slots) {z : Int32} (hr : ret = some .int) (hd : decode bytes pc = .ok (.ireturn, 1))  (hq : Q (some (.int z)) T.heap locs) (hc : cells ≤ RC) (hs : slots ≤ RS) : Go p e below (Fn s RC RS Q) T (mkF m pc Ls (.int z :: S)) := by
  have hret := C.2.2.2.2.2.1
  have hlk := C.2.2.2.2.2.2.2
  rw [hr] at hret
  obtain ⟨fs, hl, hrun, hended, hW, hsame⟩ := X.leave (v := (some (.int z))) (fun h => by first | rfl | (rw [hret] at h; cases h)) hlk
  exact ⟨_, _, retOut X C.1 hret rfl (Or.inl ⟨rfl, Or.inl rfl, z, rfl⟩) (hb C.2.2.2.1 hd) hl, hrun, hended, _, _, rfl, hq, ⟨_, rfl⟩, hW, hsame.mono hc hs⟩
theorem Go.retJ (C : Cx p s m meth c Z own nm bytes maxL ret) (X : Stand p l e R s m args below meth c T locs cells slots) {z : Int64} (hr : ret = some .long) (hd : decode bytes pc = .ok (.lreturn, 1))  (hq : Q (some (.long z)) T.heap locs) (hc : cells ≤ RC) (hs : slots ≤ RS) : Go p e below (Fn s RC RS Q) T (mkF m pc Ls (.long z :: S)) := by
  have hret := C.2.2.2.2.2.1
  have hlk := C.2.2.2.2.2.2.2
  rw [hr] at hret
  obtain ⟨fs, hl, hrun, hended, hW, hsame⟩ := X.leave (v := (some (.long z))) (fun h => by first | rfl | (rw [hret] at h; cases h)) hlk
  exact ⟨_, _, retOut X C.1 hret rfl (Or.inr (Or.inl ⟨rfl, rfl, z, rfl⟩)) (hb C.2.2.2.1 hd) hl, hrun, hended, _, _, rfl, hq, ⟨_, rfl⟩, hW, hsame.mono hc hs⟩
theorem Go.retA (C : Cx p s m meth c Z own nm bytes maxL ret) (X : Stand p l e R s m args below meth c T locs cells slots) {t : FieldType} {v : Value} (hr : ret = some t) (hd : decode bytes pc = .ok (.areturn, 1)) (ht : t.isReference = true) (hv : v.isRef = true) (hn : narrow t v = v) (hq : Q (some v) T.heap locs) (hc : cells ≤ RC) (hs : slots ≤ RS) : Go p e below (Fn s RC RS Q) T (mkF m pc Ls (v :: S)) := by
  have hret := C.2.2.2.2.2.1
  have hlk := C.2.2.2.2.2.2.2
  rw [hr] at hret
  obtain ⟨fs, hl, hrun, hended, hW, hsame⟩ := X.leave (v := (some v)) (fun h => by first | rfl | (rw [hret] at h; cases h)) hlk
  exact ⟨_, _, retOut X C.1 hret hn (Or.inr (Or.inr (Or.inr (Or.inr ⟨rfl, ht, hv⟩)))) (hb C.2.2.2.1 hd) hl, hrun, hended, _, _, rfl, hq, ⟨_, rfl⟩, hW, hsame.mono hc hs⟩
/-! arrays whose elements are all known -/
def AL (Z : State) (h : Heap) (a : Addr) (k : ClassId) (ty : FieldType) (vs : List Value) : Prop := ∃ c : Cell, Arr Z h a c ty ∧ c.cls = k ∧ c.slots = vs.toArray
theorem AL.lt {a : Addr} {k : ClassId} {ty : FieldType} {vs : List Value} (F : AL Z h a k ty vs) : a < h.size := by obtain ⟨c, A, -⟩ := F; exact A.lt
theorem AL.ext {h' : Heap} {a : Addr} {k : ClassId} {ty : FieldType} {vs : List Value} (E : Ext h h') (F : AL Z h a k ty vs) : AL Z h' a k ty vs := by obtain ⟨c, A, r⟩ := F; exact ⟨c, A.ext E, r⟩
theorem AL.other {h' : Heap} {a b : Addr} {sl : Nat} {v : Value} {k : ClassId} {ty : FieldType} {vs : List Value} (W : Wr h h' a sl v) (F : AL Z h b k ty vs) (q : b ≠ a) : AL Z h' b k ty vs := by obtain ⟨c, A, r⟩ := F; exact ⟨c, A.other W q, r⟩
theorem AL.keep {h' : Heap} {a : Addr} {ws : List Addr} {k : ClassId} {ty : FieldType} {vs : List Value} (F : AL Z h a k ty vs) (K : Keep h h' ws) (q : a ∉ ws) : AL Z h' a k ty vs := by obtain ⟨c, A, r⟩ := F; exact ⟨c, ⟨K.2.1 a c A.1 q, A.2⟩, r⟩
theorem AL.set {h' : Heap} {a : Addr} {i : Nat} {v : Value} {k : ClassId} {ty : FieldType} {vs : List Value} (F : AL Z h a k ty vs) (W : Wr h h' a i v) : AL Z h' a k ty (vs.set i v) := by
  obtain ⟨c, A, r1, r2⟩ := F
  exact ⟨_, A.same W, r1, by simp [Cell.setSlot, r2]⟩
theorem AL.new {a : Addr} {k : ClassId} {ty : FieldType} {n : Int32} (A : Arr Z h a (newA k ty n) ty) : AL Z h a k ty (List.replicate n.toNatClampNeg (defaultValue ty)) := ⟨_, A, rfl, by simp [newA]⟩
theorem AL.arv {a : Addr} {k : ClassId} {ty : FieldType} {n : Int32} {vs : List Value} {dv : Value} (F : AL Z h a k ty vs) (hn : ¬ n < 0) (hl : n.toNatClampNeg = vs.length) (hf : ∀ v ∈ vs, fits ty v = true) : Arv Z h a k ty n vs dv := by
  obtain ⟨c, A, r1, r2⟩ := F
  refine ⟨c, A, r1, by rw [r2]; simp [hl], hn, fun i hi => ?_, fun i hi => ?_⟩
  · have hi' : i < vs.length := by simpa [r2] using hi
    simp [r2, List.getD, List.getElem?_eq_getElem hi']
  · have hi' : i < vs.length := by simpa [r2] using hi
    have q : vs.getD i dv = vs[i] := by simp [List.getD, List.getElem?_eq_getElem hi']
    rw [q]; exact hf _ (List.getElem_mem hi')
theorem AL.of_arv {a : Addr} {k : ClassId} {ty : FieldType} {n : Int32} {vs : List Value} {dv : Value} (F : Arv Z h a k ty n vs dv) (hl : n.toNatClampNeg = vs.length) : AL Z h a k ty vs := by
  obtain ⟨c, A, r1, r2, -, H, -⟩ := F
  refine ⟨c, A, r1, ?_⟩
  apply Array.ext_getElem?
  intro i
  by_cases hi : i < c.slots.size
  · have hi' : i < vs.length := by omega
    rw [H i hi]
    simp [List.getD, List.getElem?_eq_getElem hi']
  · have hi' : vs.length ≤ i := by omega
    rw [Array.getElem?_eq_none (by omega)]
    simp [List.getElem?_eq_none hi']
theorem Sta.old {n d K1 : String} {v : Value} (F : Sta Z Z.heap K1 n d v) (O : Ext Z.heap h) : Sta Z h K1 n d v := F.ext O
theorem Ext.trans {h1 h2 h3 : Heap} (E : Ext h1 h2) (E' : Ext h2 h3) : Ext h1 h3 := ⟨Nat.le_trans E.1 E'.1, fun x c q => E'.2 x c (E.2 x c q)⟩
theorem Ext.refl (h : Heap) : Ext h h := ⟨Nat.le_refl _, fun _ _ q => q⟩
theorem Ext.wr {h1 h2 h3 : Heap} {a : Addr} {sl : Nat} {v : Value} (E : Ext h1 h2) (W : Wr h2 h3 a sl v) (q : h1.size ≤ a) : Ext h1 h3 := by
  refine ⟨by rw [W.size]; exact E.1, fun x c hx => ?_⟩
  obtain ⟨c', e1, -, -, -, e5, -⟩ := wr_at W (E.2 x c hx)
  have ne : x ≠ a := fun e => absurd (Array.getElem?_eq_some_iff.mp hx).1 (by rw [e]; exact Nat.not_lt.mpr q)
  rw [← e5 ne]; exact e1
theorem Ext.keep {h1 h2 h3 : Heap} {ws : List Addr} (E : Ext h1 h2) (K : Keep h2 h3 ws) (q : ∀ x ∈ ws, h1.size ≤ x) : Ext h1 h3 := ⟨Nat.le_trans E.1 K.1, fun x c hx => K.2.1 x c (E.2 x c hx) fun z => absurd (Array.getElem?_eq_some_iff.mp hx).1 (Nat.not_lt.mpr (q x z))⟩
theorem Keep.toExt {h1 h2 : Heap} (K : Keep h1 h2 []) : Ext h1 h2 := ⟨K.1, fun x c hx => K.2.1 x c hx (fun z => nomatch z)⟩
theorem Keep.of_ext {h1 h2 : Heap} {ws : List Addr} (E : Ext h1 h2) : Keep h1 h2 ws := (Keep.refl h1 ws).ext E
theorem Keep.drop {h1 h2 : Heap} {ws ws' : List Addr} (K : Keep h1 h2 ws) (q : ∀ x ∈ ws, x ∈ ws' ∨ h1.size ≤ x) : Keep h1 h2 ws' := (Keep.refl h1 ws').trans K q
theorem Ins.keep {h' : Heap} {a : Addr} {ws : List Addr} {K1 : String} {bo : Bool} (F : Ins Z h a K1 bo) (K : Keep h h' ws) : Ins Z h' a K1 bo := by
  obtain ⟨cell, cT, h1, h2, h3⟩ := F
  obtain ⟨c', e1, e2, e3, -⟩ := K.2.2 _ _ h1
  exact ⟨c', cT, e1, h2, by rw [e2, e3]; exact h3⟩
/-! steps that read the tables or the heap -/
theorem Go.getF (C : Cx p s m meth c Z own nm bytes maxL ret) (X : Stand p l e R s m args below meth c T locs cells slots) {idx : Nat} {R0 O n d host : String} {a : Addr} {v : Value} (w : (Cond.fieldLink own idx R0 n d).before a0 Z = true ∨ (Cond.fieldLinkNest own idx R0 n d host).before a0 Z = true) (via : Via Z R0 O n d) (eT : T.heap = h) (F : Fld Z h a O n d v) (hd : decode bytes pc = .ok (.getfield idx, 3)) (hp : pc + 3 = pc')
    (K : ∀ T', Stand p l e R s m args below meth c T' locs cells slots → T'.heap = h → Go p e below Fin' T' (mkF m pc' Ls (v :: S))) : Go p e below Fin' T (mkF m pc Ls (.ref a :: S)) := by
  subst hp
  obtain ⟨T', X', e', st⟩ := Jvm.RoadKit.getF X C.1 C.2.1 C.2.2.1 w via eT F (g := mkF m pc Ls (.ref a :: S)) rfl rfl (hb C.2.2.2.1 hd)
  exact (K T' X' e').via st
theorem Go.getS (C : Cx p s m meth c Z own nm bytes maxL ret) (X : Stand p l e R s m args below meth c T locs cells slots) {idx : Nat} {R0 O n d host : String} {v : Value} (w : (Cond.fieldLink own idx R0 n d).before a0 Z = true ∨ (Cond.fieldLinkNest own idx R0 n d host).before a0 Z = true) (via : Via Z R0 O n d) (eT : T.heap = h) (F : Sta Z h O n d v) (hd : decode bytes pc = .ok (.getstatic idx, 3)) (hp : pc + 3 = pc')
    (K : ∀ T', Stand p l e R s m args below meth c T' locs cells slots → T'.heap = h → Go p e below Fin' T' (mkF m pc' Ls (v :: S))) : Go p e below Fin' T (mkF m pc Ls S) := by
  subst hp
  obtain ⟨T', X', e', st⟩ := getS2 X C.1 C.2.1 C.2.2.1 w via eT F (g := mkF m pc Ls S) rfl (hb C.2.2.2.1 hd)
  exact (K T' X' e').via st
theorem Go.putF (C : Cx p s m meth c Z own nm bytes maxL ret) (X : Stand p l e R s m args below meth c T locs cells slots) {idx kk : Nat} {R0 O n d host K1 : String} {a : Addr} {v old : Value} {ty : FieldType} (w : (Cond.fieldLink own idx R0 n d).before a0 Z = true ∨ (Cond.fieldLinkNest own idx R0 n d host).before a0 Z = true) (via : Via Z R0 O n d) (eT : T.heap = h) (F : Fld Z h a O n d old) (E : Exa Z h a K1) (L : (Cond.lays K1 O n d).before a0 Z = true ∨ ((Cond.laysFinal K1 O n d).before a0 Z = true ∧ own = O ∧ nm = "<init>")) (wi : (Cond.instantiable K1 kk).before a0 Z = true) (hty : parseFieldDescriptor d = some ty) (hn : narrow ty v = v) (hf : fits ty v = true) (hd : decode bytes pc = .ok (.putfield idx, 3)) (hp : pc + 3 = pc')
    (K : ∀ T' h', Stand p l e R s m args below meth c T' (locs ++ [⟨a, slotOf Z O n d⟩]) cells slots → T'.heap = h' → Wr h h' a (slotOf Z O n d) v → Fld Z h' a O n d v → Go p e below Fin' T' (mkF m pc' Ls S)) : Go p e below Fin' T (mkF m pc Ls (v :: .ref a :: S)) := by
  subst hp
  obtain ⟨T', h', X', e', W', st⟩ := Jvm.RoadKit.putF X C.1 C.2.1 C.2.2.1 w via eT F E (L.imp id fun q => ⟨q.1, q.2.1, C.2.2.2.2.2.2.1.trans q.2.2⟩) wi hty hn hf (g := mkF m pc Ls (v :: .ref a :: S)) rfl rfl (hb C.2.2.2.1 hd)
  exact (K T' h' X' e' W' (F.same W')).via st
theorem Go.putFN (C : Cx p s m meth c Z own nm bytes maxL ret) (X : Stand p l e R s m args below meth c T locs cells slots) {idx kk : Nat} {R0 O n d K1 : String} {a : Addr} {v v' old : Value} {ty : FieldType} (w : (Cond.fieldLink own idx R0 n d).before a0 Z = true) (via : Via Z R0 O n d) (eT : T.heap = h) (F : Fld Z h a O n d old) (E : Exa Z h a K1) (L : (Cond.lays K1 O n d).before a0 Z = true ∨ ((Cond.laysFinal K1 O n d).before a0 Z = true ∧ own = O ∧ nm = "<init>")) (wi : (Cond.instantiable K1 kk).before a0 Z = true) (hty : parseFieldDescriptor d = some ty) (hn : narrow ty v = v') (hf : fits ty v' = true) (hd : decode bytes pc = .ok (.putfield idx, 3)) (hp : pc + 3 = pc')
    (K : ∀ T' h', Stand p l e R s m args below meth c T' (locs ++ [⟨a, slotOf Z O n d⟩]) cells slots → T'.heap = h' → Wr h h' a (slotOf Z O n d) v' → Fld Z h' a O n d v' → Go p e below Fin' T' (mkF m pc' Ls S)) : Go p e below Fin' T (mkF m pc Ls (v :: .ref a :: S)) := by
  subst hp
  obtain ⟨T', h', X', e', W', st⟩ := Jvm.RoadKit.putFN X C.1 C.2.1 C.2.2.1 w via eT F E (L.imp id fun q => ⟨q.1, q.2.1, C.2.2.2.2.2.2.1.trans q.2.2⟩) wi hty hn hf (g := mkF m pc Ls (v :: .ref a :: S)) rfl rfl (hb C.2.2.2.1 hd)
  exact (K T' h' X' e' W' (F.same W')).via st
theorem Go.newO (C : Cx p s m meth c Z own nm bytes maxL ret) (X : Stand p l e R s m args below meth c T locs cells slots) {idx n : Nat} {K1 : String} (w : (Cond.classLink own idx K1).before a0 Z = true) (wi : (Cond.instantiable K1 n).before a0 Z = true) (wz : (Cond.initialized K1).before a0 Z = true) (eT : T.heap = h) (hc : cells + 1 ≤ R.cells) (hl : slots + n ≤ R.slots) (hd : decode bytes pc = .ok (.new idx, 3)) (hp : pc + 3 = pc')
    (K : ∀ T' h' b, Stand p l e R s m args below meth c T' locs (cells + 1) (slots + n) → T'.heap = h' → b = h.size → Ext h h' → Exa Z h' b K1 → (∀ {O nm d : String} {ty : FieldType}, Laid Z a0 K1 O nm d → parseFieldDescriptor d = some ty → Fld Z h' b O nm d (defaultValue ty)) → Go p e below Fin' T' (mkF m pc' Ls (.ref b :: S))) : Go p e below Fin' T (mkF m pc Ls S) := by
  subst hp
  obtain ⟨T', h', X', e', E', A', D', -, st⟩ := Jvm.RoadKit.newO X C.1 C.2.1 C.2.2.1 w wi wz eT (g := mkF m pc Ls S) rfl (hb C.2.2.2.1 hd) hc hl
  exact (K T' h' h.size X' e' rfl E' A' D').via st
theorem Go.newP (C : Cx p s m meth c Z own nm bytes maxL ret) (X : Stand p l e R s m args below meth c T locs cells slots) {aty : ArrayType} {n : Int32} {cap : Nat} {vs : List Value} {ad : String} (had : "[" ++ (newarray.typeOf aty).toString = ad) (w : (Cond.arrayClass (newarray.typeOf aty)).before a0 Z = true) (eT : T.heap = h) (hn : ¬ n < 0) (hcap : n.toNatClampNeg ≤ cap) (hb8 : cap * 8 ≤ 536870912) (hc : cells + 1 ≤ R.cells) (hl : slots + cap ≤ R.slots) (hvs : List.replicate n.toNatClampNeg (defaultValue (newarray.typeOf aty)) = vs) (hd : decode bytes pc = .ok (.newarray aty, 2)) (hp : pc + 2 = pc')
    (K : ∀ T' h' b k, Stand p l e R s m args below meth c T' locs (cells + 1) (slots + cap) → T'.heap = h' → b = h.size → Ext h h' → AL Z h' b k (newarray.typeOf aty) vs → Exa Z h' b ad → Go p e below Fin' T' (mkF m pc' Ls (.ref b :: S))) : Go p e below Fin' T (mkF m pc Ls (.int n :: S)) := by
  subst hp
  obtain ⟨T', h', k, X', e', E', A', E2, st⟩ := Jvm.RoadKit.newPE X C.1 C.2.1 w eT (g := mkF m pc Ls (.int n :: S)) rfl (hb C.2.2.2.1 hd) rfl hn hcap hb8 hc hl had
  exact (K T' h' h.size k X' e' rfl E' (hvs ▸ AL.new A') E2).via st
theorem Go.newR (C : Cx p s m meth c Z own nm bytes maxL ret) (X : Stand p l e R s m args below meth c T locs cells slots) {idx : Nat} {K1 ad : String} {n : Int32} {cap : Nat} {vs : List Value} (had : "[" ++ (FieldType.object K1).toString = ad) (w : (Cond.classLink own idx K1).before a0 Z = true) (w2 : (Cond.arrayOver (.object K1)).before a0 Z = true) (eT : T.heap = h) (hn : ¬ n < 0) (hcap : n.toNatClampNeg ≤ cap) (hb8 : cap * 8 ≤ 536870912) (hc : cells + 1 ≤ R.cells) (hl : slots + cap ≤ R.slots) (hvs : List.replicate n.toNatClampNeg (defaultValue (.object K1)) = vs) (hd : decode bytes pc = .ok (.anewarray idx, 3)) (hp : pc + 3 = pc')
    (K : ∀ T' h' b k, Stand p l e R s m args below meth c T' locs (cells + 1) (slots + cap) → T'.heap = h' → b = h.size → Ext h h' → AL Z h' b k (.object K1) vs → Exa Z h' b ad → Ovr Z k K1 → Go p e below Fin' T' (mkF m pc' Ls (.ref b :: S))) : Go p e below Fin' T (mkF m pc Ls (.int n :: S)) := by
  subst hp
  obtain ⟨T', h', k, X', e', E', A', E2, O', st⟩ := Jvm.RoadKit.newRE X C.1 C.2.1 C.2.2.1 w w2 eT (g := mkF m pc Ls (.int n :: S)) rfl (hb C.2.2.2.1 hd) rfl hn hcap hb8 hc hl had
  exact (K T' h' h.size k X' e' rfl E' (hvs ▸ AL.new A') E2 O').via st
theorem Go.newRA (C : Cx p s m meth c Z own nm bytes maxL ret) (X : Stand p l e R s m args below meth c T locs cells slots) {idx : Nat} {K1 ad : String} {ty : FieldType} {n : Int32} {cap : Nat} {vs : List Value} (hC : (FieldType.array ty).toString = K1) (had : "[" ++ K1 = ad) (w : (Cond.classLink own idx K1).before a0 Z = true) (w2 : (Cond.arrayOver (.array ty)).before a0 Z = true) (eT : T.heap = h) (hn : ¬ n < 0) (hcap : n.toNatClampNeg ≤ cap) (hb8 : cap * 8 ≤ 536870912) (hc : cells + 1 ≤ R.cells) (hl : slots + cap ≤ R.slots) (hvs : List.replicate n.toNatClampNeg (defaultValue (.array ty)) = vs) (hd : decode bytes pc = .ok (.anewarray idx, 3)) (hp : pc + 3 = pc')
    (K : ∀ T' h' b k, Stand p l e R s m args below meth c T' locs (cells + 1) (slots + cap) → T'.heap = h' → b = h.size → Ext h h' → AL Z h' b k (.array ty) vs → Exa Z h' b ad → OvrA Z k ty K1 → Go p e below Fin' T' (mkF m pc' Ls (.ref b :: S))) : Go p e below Fin' T (mkF m pc Ls (.int n :: S)) := by
  subst hp
  obtain ⟨T', h', k, X', e', E', A', E2, O', st⟩ := Jvm.RoadKit.newRA X C.1 C.2.1 C.2.2.1 hC w w2 eT (g := mkF m pc Ls (.int n :: S)) rfl (hb C.2.2.2.1 hd) rfl hn hcap hb8 hc hl had
  exact (K T' h' h.size k X' e' rfl E' (hvs ▸ AL.new A') E2 O').via st
theorem AL.stoA {a y : Addr} {k : ClassId} {t0 ty : FieldType} {vs : List Value} {K1 : String} (F : AL Z h a k t0 vs) (O : OvrA Z k ty K1) (I : Ins Z h y K1 true) : Sto Z h a (.ref y) := by
  obtain ⟨c, A, r, -⟩ := F; exact Sto.ofVA A r O I
theorem Go.getFR (C : Cx p s m meth c Z own nm bytes maxL ret) (X : Stand p l e R s m args below meth c T locs cells slots) {idx : Nat} {O n d : String} {a : Addr} {v : Value} (w : (Cond.fieldRef own idx O n d).before a0 Z = true) (eT : T.heap = h) (F : Fld Z h a O n d v) (hd : decode bytes pc = .ok (.getfield idx, 3)) (hp : pc + 3 = pc')
    (K : Go p e below Fin' T (mkF m pc' Ls (v :: S))) : Go p e below Fin' T (mkF m pc Ls (.ref a :: S)) := by
  subst hp
  obtain ⟨cell, cf, k, i, f, h1, h2, h3, h4, -, -, h7⟩ := F
  have hZT : Z.Warmed39 T.vm := wtrans C.2.1 X.warmed
  have w' : (Cond.fieldRef own idx O n d).before args T = true := (Cond.fieldRef_warmed39 hZT w :)
  have hown : T.vm.findClass own = some m.cls := by rw [X.warmed.alike.findClass]; exact C.2.2.1
  obtain ⟨c', k', i', f', e1, hr⟩ := Cond.fieldRef_spec hown w'
  obtain ⟨k2, q1, -⟩ := State.fieldFound?_setVm (s := Z) hZT.alike h2
  have q1' : T.fieldFound? O n d = some (cf, k2, i, f) := q1
  cases q1'.symm.trans e1
  exact K.via fun t kt => (X.getfieldR C.1 (g := mkF m pc Ls (.ref a :: S)) rfl hr h3 rfl (by rw [eT]; exact h1) h4 h7 (hb C.2.2.2.1 hd) (Steps.refl _)).trans kt
theorem Go.clone (C : Cx p s m meth c Z own nm bytes maxL ret) (X : Stand p l e R s m args below meth c T locs cells slots) {idx : Nat} {ad : String} {a : Addr} {k : ClassId} {ty : FieldType} {vs : List Value} {W cap : Nat} (w1 : (Cond.methodLink own idx ⟨ad, "clone", "()Ljava/lang/Object;"⟩).before a0 Z = true) (w2 : (Cond.sameMethod ad "java/lang/Object" "clone" "()Ljava/lang/Object;").before a0 Z = true) (w3 : (Cond.native ⟨"java/lang/Object", "clone", "()Ljava/lang/Object;"⟩).before a0 Z = true) (w4 : (Cond.instanceMethod ⟨"java/lang/Object", "clone", "()Ljava/lang/Object;"⟩).before a0 Z = true) (w5 : (Cond.selects ad ⟨ad, "clone", "()Ljava/lang/Object;"⟩ ⟨"java/lang/Object", "clone", "()Ljava/lang/Object;"⟩).before a0 Z = true) (w6 : (Cond.castable ad "java/lang/Cloneable").before a0 Z = true) (eT : T.heap = h) (F : AL Z h a k ty vs) (E : Exa Z h a ad) (hfit : ∀ v ∈ vs, fits ty v = true) (hls : Ls.size = maxL) (hf : 1 ≤ R.frames) (hW : (S.map fun v => v.category).sum ≤ W) (hlo : W + 14 ≤ R.locals) (hcap : vs.length ≤ cap) (hc : cells + 1 ≤ R.cells) (hsl : slots + cap ≤ R.slots) (hd : decode bytes pc = .ok (.invokevirtual idx, 3)) (hp : pc + 3 = pc')
    (K : ∀ T' h' b, Stand p l e R s m args below meth c T' locs (cells + 1) (slots + cap) → T'.heap = h' → b = h.size → Ext h h' → AL Z h' b k ty vs → Exa Z h' b ad → Go p e below Fin' T' (mkF m pc' Ls (.ref b :: S))) : Go p e below Fin' T (mkF m pc Ls (.ref a :: S)) := by
  subst hp
  obtain ⟨cl, A, q1, q2⟩ := F
  have FC : FitC Z cl := fitC_of A fun i hi v hv => by
    rw [q2] at hv
    exact hfit v (List.mem_of_getElem? (by simpa using hv))
  have hsz : cl.slots.size = vs.length := by rw [q2]; simp
  obtain ⟨T', h', X', e', ex, A', E', st⟩ := cloneA X C.1 C.2.1 C.2.2.1 w1 w2 w3 w4 w5 w6 eT A E FC (g := mkF m pc Ls (.ref a :: S)) rfl (by show Ls.size = _; rw [C.2.2.2.2.1]; exact hls) rfl (hb C.2.2.2.1 hd) hf (W := W) (by show 2 * 0 + _ ≤ _; omega) hlo (cap := cap) (by omega) hc hsl
  exact (K T' h' h.size X' e' rfl ex ⟨cloneOf cl, A', q1, q2⟩ E').via st
theorem range_drop (vs : List Value) (dv : Value) (i n : Nat) (hn : i + n ≤ vs.length) : ((List.range n).map fun j => vs.getD (i + j) dv) = (vs.drop i).take n := by
  apply List.ext_getElem
  · simp; omega
  · intro j h1 h2
    have h3 : i + j < vs.length := by simp at h1; omega
    simp [List.getD, List.getElem?_eq_getElem h3]
theorem Go.arrcopy (C : Cx p s m meth c Z own nm bytes maxL ret) (X : Stand p l e R s m args below meth c T locs cells slots) {idx : Nat} {a b : Addr} {k k' : ClassId} {ty ty' : FieldType} {vs vd vd' : List Value} {sp dp nn : Int32} {i j n W : Nat} (w1 : (Cond.methodLink own idx Jvm.Stand.acN).before a0 Z = true) (w2 : (Cond.native Jvm.Stand.acN).before a0 Z = true) (w3 : (Cond.static Jvm.Stand.acN).before a0 Z = true) (w4 : (Cond.initialized "java/lang/System").before a0 Z = true) (eT : T.heap = h) (A : AL Z h a k ty vs) (B : AL Z h b k' ty' vd) (hfa : ∀ v ∈ vs, fits ty v = true) (hfb : ∀ v ∈ vd, fits ty' v = true) (hla : vs.length < 2 ^ 31) (hlb : vd.length < 2 ^ 31) (hty : (ty = ty' ∧ refKind ty = false) ∨ (refKind ty = true ∧ refKind ty' = true ∧ StoL Z h b ((vs.drop i).take n))) (h1 : ¬ sp < 0) (h2 : ¬ dp < 0) (h3 : ¬ nn < 0) (hi : sp.toNatClampNeg = i) (hj : dp.toNatClampNeg = j) (hn : nn.toNatClampNeg = n) (h4 : i + n ≤ vs.length) (h5 : j + n ≤ vd.length) (hvd : vd.take j ++ (vs.drop i).take n ++ vd.drop (j + n) = vd') {n0 : Nat} (N : Fr n0 locs) (ge : n0 ≤ b) (hls : Ls.size = maxL) (hf : 1 ≤ R.frames) (hW : (S.map fun v => v.category).sum ≤ W) (hlo : W + (nativeFrameWords "java/lang/System" "arraycopy" 5 + 11) ≤ R.locals) (hd : decode bytes pc = .ok (.invokestatic idx, 3)) (hp : pc + 3 = pc')
    (K : ∀ T' h' L, Stand p l e R s m args below meth c T' L cells slots → T'.heap = h' → Fr n0 L → Keep h h' [b] → AL Z h' b k' ty' vd' → Go p e below Fin' T' (mkF m pc' Ls S)) : Go p e below Fin' T (mkF m pc Ls (.int nn :: .int dp :: .ref b :: .int sp :: .ref a :: S)) := by
  subst hp
  subst hi hj hn hvd
  have za : vs.length.toInt32.toNatClampNeg = vs.length := by simp only [Int32.toNatClampNeg, len_toInt hla]; omega
  have zb : vd.length.toInt32.toNatClampNeg = vd.length := by simp only [Int32.toNatClampNeg, len_toInt hlb]; omega
  have na : ¬ vs.length.toInt32 < 0 := by simp only [Int32.lt_iff_toInt_lt, len_toInt hla, Int32.reduceToInt]; omega
  have nb : ¬ vd.length.toInt32 < 0 := by simp only [Int32.lt_iff_toInt_lt, len_toInt hlb, Int32.reduceToInt]; omega
  have A' : Arv Z h a k ty vs.length.toInt32 vs .null := A.arv na za hfa
  have B' : Arv Z h b k' ty' vd.length.toInt32 vd .null := B.arv nb zb hfb
  obtain ⟨T', h', L, X', e', N', K', R', st⟩ := cpA X C.1 C.2.1 C.2.2.1 w1 w2 w3 w4 eT A' B' hty h1 h2 h3 (by rw [za]; exact h4) (by rw [zb]; exact h5) (range_drop vs .null _ _ h4).symm h5 N ge (g := mkF m pc Ls (.int nn :: .int dp :: .ref b :: .int sp :: .ref a :: S)) rfl (by show Ls.size = _; rw [C.2.2.2.2.1]; exact hls) rfl (hb C.2.2.2.1 hd) hf (W := W) (by show 2 * 0 + _ ≤ _; omega) hlo
  exact (K T' h' L X' e' N' K' (AL.of_arv R' (by rw [zb]; simp; omega))).via st
theorem Go.castY (C : Cx p s m meth c Z own nm bytes maxL ret) (X : Stand p l e R s m args below meth c T locs cells slots) {idx : Nat} {K1 : String} {a : Addr} (w : (Cond.classLink own idx K1).before a0 Z = true) (eT : T.heap = h) (F : Ins Z h a K1 true) (hd : decode bytes pc = .ok (.checkcast idx, 3)) (hp : pc + 3 = pc')
    (K : ∀ T', Stand p l e R s m args below meth c T' locs cells slots → T'.heap = h → Go p e below Fin' T' (mkF m pc' Ls (.ref a :: S))) : Go p e below Fin' T (mkF m pc Ls (.ref a :: S)) := by
  subst hp
  obtain ⟨T', X', e', st⟩ := Jvm.RoadKit.castY X C.1 C.2.1 C.2.2.1 w eT F (g := mkF m pc Ls (.ref a :: S)) rfl rfl (hb C.2.2.2.1 hd)
  exact (K T' X' e').via st
theorem Go.instY (C : Cx p s m meth c Z own nm bytes maxL ret) (X : Stand p l e R s m args below meth c T locs cells slots) {idx : Nat} {K1 : String} {a : Addr} (w : (Cond.classLink own idx K1).before a0 Z = true) (eT : T.heap = h) (F : Ins Z h a K1 true) (hd : decode bytes pc = .ok (.instanceof idx, 3)) (hp : pc + 3 = pc')
    (K : ∀ T', Stand p l e R s m args below meth c T' locs cells slots → T'.heap = h → Go p e below Fin' T' (mkF m pc' Ls (.int 1 :: S))) : Go p e below Fin' T (mkF m pc Ls (.ref a :: S)) := by
  subst hp
  obtain ⟨T', X', e', st⟩ := Jvm.RoadKit.instY X C.1 C.2.1 C.2.2.1 w eT F (g := mkF m pc Ls (.ref a :: S)) rfl rfl (hb C.2.2.2.1 hd)
  exact (K T' X' e').via st
theorem Go.instNo (C : Cx p s m meth c Z own nm bytes maxL ret) (X : Stand p l e R s m args below meth c T locs cells slots) {idx : Nat} {K1 K2 : String} {a : Addr} (w : (Cond.classLink own idx K1).before a0 Z = true) (eT : T.heap = h) (E : Exa Z h a K2) (F : ∃ c t, Z.vm.findClass K2 = some c ∧ Z.vm.findClass K1 = some t ∧ Z.vm.assignable c t = false) (hd : decode bytes pc = .ok (.instanceof idx, 3)) (hp : pc + 3 = pc')
    (K : ∀ T', Stand p l e R s m args below meth c T' locs cells slots → T'.heap = h → Go p e below Fin' T' (mkF m pc' Ls (.int 0 :: S))) : Go p e below Fin' T (mkF m pc Ls (.ref a :: S)) := by
  subst hp
  obtain ⟨T', X', e', st⟩ := Jvm.RoadKit.instNo X C.1 C.2.1 C.2.2.1 w eT E F (g := mkF m pc Ls (.ref a :: S)) rfl rfl (hb C.2.2.2.1 hd)
  exact (K T' X' e').via st
theorem Go.castNull (C : Cx p s m meth c Z own nm bytes maxL ret) (X : Stand p l e R s m args below meth c T locs cells slots) {idx : Nat}  (hd : decode bytes pc = .ok (.checkcast idx, 3)) (hp : pc + 3 = pc')
    (K : Go p e below Fin' T (mkF m pc' Ls (.null :: S))) : Go p e below Fin' T (mkF m pc Ls (.null :: S)) := by
  subst hp
  exact K.via (X.checkcastNull C.1 (g := mkF m pc Ls (.null :: S)) rfl rfl (hb C.2.2.2.1 hd))
theorem Go.instNull (C : Cx p s m meth c Z own nm bytes maxL ret) (X : Stand p l e R s m args below meth c T locs cells slots) {idx : Nat}  (hd : decode bytes pc = .ok (.instanceof idx, 3)) (hp : pc + 3 = pc')
    (K : Go p e below Fin' T (mkF m pc' Ls (.int 0 :: S))) : Go p e below Fin' T (mkF m pc Ls (.null :: S)) := by
  subst hp
  exact K.via (X.instanceofNull C.1 (g := mkF m pc Ls (.null :: S)) rfl rfl (hb C.2.2.2.1 hd))
theorem Go.stI (C : Cx p s m meth c Z own nm bytes maxL ret) (X : Stand p l e R s m args below meth c T locs cells slots) {a : Addr} {k : ClassId} {vs vs' : List Value} {j : Int32} {i : Nat} {x x' : Int32} (eT : T.heap = h) (F : AL Z h a k .int vs) (hj : ¬ j < 0) (hji : j.toNatClampNeg = i) (hi : i < vs.length) (hx : x = x') (hvs : vs.set i (.int x') = vs') (hd : decode bytes pc = .ok (.iastore, 1)) (hp : pc + 1 = pc')
    (K : ∀ T' h', Stand p l e R s m args below meth c T' (locs ++ [⟨a, i⟩]) cells slots → T'.heap = h' → Wr h h' a i (.int x') → AL Z h' a k .int vs' → Go p e below Fin' T' (mkF m pc' Ls S)) : Go p e below Fin' T (mkF m pc Ls (.int x :: .int j :: .ref a :: S)) := by
  subst hp
  subst hji hvs hx
  have F0 := F
  obtain ⟨cl, A, q1, q2⟩ := F
  obtain ⟨T', h', X', e', W', st⟩ := Jvm.RoadKit.stI X C.1 C.2.1 eT A (j := j) (fun q => q.elim hj fun y => by rw [q2] at y; simp at y; omega) (g := mkF m pc Ls (.int x :: .int j :: .ref a :: S)) rfl rfl (hb C.2.2.2.1 hd)
  exact (K T' h' X' e' W' (F0.set W')).via st
theorem Go.stC (C : Cx p s m meth c Z own nm bytes maxL ret) (X : Stand p l e R s m args below meth c T locs cells slots) {a : Addr} {k : ClassId} {vs vs' : List Value} {j : Int32} {i : Nat} {x x' : Int32} (eT : T.heap = h) (F : AL Z h a k .char vs) (hj : ¬ j < 0) (hji : j.toNatClampNeg = i) (hi : i < vs.length) (hx : (nar .char x) = x') (hvs : vs.set i (.int x') = vs') (hd : decode bytes pc = .ok (.castore, 1)) (hp : pc + 1 = pc')
    (K : ∀ T' h', Stand p l e R s m args below meth c T' (locs ++ [⟨a, i⟩]) cells slots → T'.heap = h' → Wr h h' a i (.int x') → AL Z h' a k .char vs' → Go p e below Fin' T' (mkF m pc' Ls S)) : Go p e below Fin' T (mkF m pc Ls (.int x :: .int j :: .ref a :: S)) := by
  subst hp
  subst hji hvs hx
  have F0 := F
  obtain ⟨cl, A, q1, q2⟩ := F
  obtain ⟨T', h', X', e', W', st⟩ := Jvm.RoadKit.stC X C.1 C.2.1 eT A (j := j) (fun q => q.elim hj fun y => by rw [q2] at y; simp at y; omega) (g := mkF m pc Ls (.int x :: .int j :: .ref a :: S)) rfl rfl (hb C.2.2.2.1 hd)
  exact (K T' h' X' e' W' (F0.set W')).via st
theorem Go.stS (C : Cx p s m meth c Z own nm bytes maxL ret) (X : Stand p l e R s m args below meth c T locs cells slots) {a : Addr} {k : ClassId} {vs vs' : List Value} {j : Int32} {i : Nat} {x x' : Int32} (eT : T.heap = h) (F : AL Z h a k .short vs) (hj : ¬ j < 0) (hji : j.toNatClampNeg = i) (hi : i < vs.length) (hx : (nar .short x) = x') (hvs : vs.set i (.int x') = vs') (hd : decode bytes pc = .ok (.sastore, 1)) (hp : pc + 1 = pc')
    (K : ∀ T' h', Stand p l e R s m args below meth c T' (locs ++ [⟨a, i⟩]) cells slots → T'.heap = h' → Wr h h' a i (.int x') → AL Z h' a k .short vs' → Go p e below Fin' T' (mkF m pc' Ls S)) : Go p e below Fin' T (mkF m pc Ls (.int x :: .int j :: .ref a :: S)) := by
  subst hp
  subst hji hvs hx
  have F0 := F
  obtain ⟨cl, A, q1, q2⟩ := F
  obtain ⟨T', h', X', e', W', st⟩ := Jvm.RoadKit.stS X C.1 C.2.1 eT A (j := j) (fun q => q.elim hj fun y => by rw [q2] at y; simp at y; omega) (g := mkF m pc Ls (.int x :: .int j :: .ref a :: S)) rfl rfl (hb C.2.2.2.1 hd)
  exact (K T' h' X' e' W' (F0.set W')).via st
theorem Go.stB (C : Cx p s m meth c Z own nm bytes maxL ret) (X : Stand p l e R s m args below meth c T locs cells slots) {a : Addr} {k : ClassId} {vs vs' : List Value} {j : Int32} {i : Nat} {x x' : Int32} (eT : T.heap = h) (F : AL Z h a k .byte vs) (hj : ¬ j < 0) (hji : j.toNatClampNeg = i) (hi : i < vs.length) (hx : (nar .byte x) = x') (hvs : vs.set i (.int x') = vs') (hd : decode bytes pc = .ok (.bastore, 1)) (hp : pc + 1 = pc')
    (K : ∀ T' h', Stand p l e R s m args below meth c T' (locs ++ [⟨a, i⟩]) cells slots → T'.heap = h' → Wr h h' a i (.int x') → AL Z h' a k .byte vs' → Go p e below Fin' T' (mkF m pc' Ls S)) : Go p e below Fin' T (mkF m pc Ls (.int x :: .int j :: .ref a :: S)) := by
  subst hp
  subst hji hvs hx
  have F0 := F
  obtain ⟨cl, A, q1, q2⟩ := F
  obtain ⟨T', h', X', e', W', st⟩ := Jvm.RoadKit.stB X C.1 C.2.1 eT A (j := j) (fun q => q.elim hj fun y => by rw [q2] at y; simp at y; omega) (g := mkF m pc Ls (.int x :: .int j :: .ref a :: S)) rfl rfl (hb C.2.2.2.1 hd)
  exact (K T' h' X' e' W' (F0.set W')).via st
theorem Go.stZ (C : Cx p s m meth c Z own nm bytes maxL ret) (X : Stand p l e R s m args below meth c T locs cells slots) {a : Addr} {k : ClassId} {vs vs' : List Value} {j : Int32} {i : Nat} {x x' : Int32} (eT : T.heap = h) (F : AL Z h a k .boolean vs) (hj : ¬ j < 0) (hji : j.toNatClampNeg = i) (hi : i < vs.length) (hx : (nar .boolean x) = x') (hvs : vs.set i (.int x') = vs') (hd : decode bytes pc = .ok (.bastore, 1)) (hp : pc + 1 = pc')
    (K : ∀ T' h', Stand p l e R s m args below meth c T' (locs ++ [⟨a, i⟩]) cells slots → T'.heap = h' → Wr h h' a i (.int x') → AL Z h' a k .boolean vs' → Go p e below Fin' T' (mkF m pc' Ls S)) : Go p e below Fin' T (mkF m pc Ls (.int x :: .int j :: .ref a :: S)) := by
  subst hp
  subst hji hvs hx
  have F0 := F
  obtain ⟨cl, A, q1, q2⟩ := F
  obtain ⟨T', h', X', e', W', st⟩ := Jvm.RoadKit.stZ X C.1 C.2.1 eT A (j := j) (fun q => q.elim hj fun y => by rw [q2] at y; simp at y; omega) (g := mkF m pc Ls (.int x :: .int j :: .ref a :: S)) rfl rfl (hb C.2.2.2.1 hd)
  exact (K T' h' X' e' W' (F0.set W')).via st
theorem Go.stJ (C : Cx p s m meth c Z own nm bytes maxL ret) (X : Stand p l e R s m args below meth c T locs cells slots) {a : Addr} {k : ClassId} {vs vs' : List Value} {j : Int32} {i : Nat} {x x' : Int64} (eT : T.heap = h) (F : AL Z h a k .long vs) (hj : ¬ j < 0) (hji : j.toNatClampNeg = i) (hi : i < vs.length) (hx : x = x') (hvs : vs.set i (.long x') = vs') (hd : decode bytes pc = .ok (.lastore, 1)) (hp : pc + 1 = pc')
    (K : ∀ T' h', Stand p l e R s m args below meth c T' (locs ++ [⟨a, i⟩]) cells slots → T'.heap = h' → Wr h h' a i (.long x') → AL Z h' a k .long vs' → Go p e below Fin' T' (mkF m pc' Ls S)) : Go p e below Fin' T (mkF m pc Ls (.long x :: .int j :: .ref a :: S)) := by
  subst hp
  subst hji hvs hx
  have F0 := F
  obtain ⟨cl, A, q1, q2⟩ := F
  obtain ⟨T', h', X', e', W', st⟩ := Jvm.RoadKit.stJ X C.1 C.2.1 eT A (j := j) (fun q => q.elim hj fun y => by rw [q2] at y; simp at y; omega) (g := mkF m pc Ls (.long x :: .int j :: .ref a :: S)) rfl rfl (hb C.2.2.2.1 hd)
  exact (K T' h' X' e' W' (F0.set W')).via st
theorem Go.stR (C : Cx p s m meth c Z own nm bytes maxL ret) (X : Stand p l e R s m args below meth c T locs cells slots) {a : Addr} {k : ClassId} {ty : FieldType} {vs vs' : List Value} {j : Int32} {i : Nat} {v : Value} (eT : T.heap = h) (F : AL Z h a k ty vs) (hj : ¬ j < 0) (hji : j.toNatClampNeg = i) (hi : i < vs.length) (hty : ty.isReference = true) (Fs : Sto Z h a v) (hvs : vs.set i v = vs') (hd : decode bytes pc = .ok (.aastore, 1)) (hp : pc + 1 = pc')
    (K : ∀ T' h', Stand p l e R s m args below meth c T' (locs ++ [⟨a, i⟩]) cells slots → T'.heap = h' → Wr h h' a i v → AL Z h' a k ty vs' → Go p e below Fin' T' (mkF m pc' Ls S)) : Go p e below Fin' T (mkF m pc Ls (v :: .int j :: .ref a :: S)) := by
  subst hp
  subst hji hvs
  have F0 := F
  obtain ⟨cl, A, q1, q2⟩ := F
  obtain ⟨T', h', X', e', W', st⟩ := Jvm.RoadKit.stR X C.1 C.2.1 eT A (j := j) (fun q => q.elim hj fun y => by rw [q2] at y; simp at y; omega) hty Fs (g := mkF m pc Ls (v :: .int j :: .ref a :: S)) rfl rfl (hb C.2.2.2.1 hd)
  exact (K T' h' X' e' W' (F0.set W')).via st
theorem AL.sto {a y : Addr} {k : ClassId} {ty : FieldType} {vs : List Value} {K1 : String} (F : AL Z h a k ty vs) (O : Ovr Z k K1) (I : Ins Z h y K1 true) : Sto Z h a (.ref y) := by
  obtain ⟨c, A, r, -⟩ := F; exact Sto.ofV A r O I
theorem Go.ldI (C : Cx p s m meth c Z own nm bytes maxL ret) (X : Stand p l e R s m args below meth c T locs cells slots) {a : Addr} {k : ClassId} {vs : List Value} {j : Int32} {i : Nat} {v : Value} (eT : T.heap = h) (F : AL Z h a k .int vs) (hj : ¬ j < 0) (hji : j.toNatClampNeg = i) (hv : vs[i]? = some v) (hd : decode bytes pc = .ok (.iaload, 1)) (hp : pc + 1 = pc')
    (K : Go p e below Fin' T (mkF m pc' Ls (v :: S))) : Go p e below Fin' T (mkF m pc Ls (.int j :: .ref a :: S)) := by
  subst hp
  subst hji
  obtain ⟨cl, A, q1, q2⟩ := F
  have hlt : j.toNatClampNeg < vs.length := (List.getElem?_eq_some_iff.mp hv).1
  exact K.via fun t k => X.iaload C.1 (j := j) (v := v) (by rw [eT]; exact A.1) (State.isArrayOf_alike C.2.1.alike A.2.1) A.2.2 (fun q => q.elim hj fun y => by rw [q2] at y; simp at y; omega) (by rw [q2]; simpa using hv) (g := mkF m pc Ls (.int j :: .ref a :: S)) rfl rfl (hb C.2.2.2.1 hd) t k
theorem Go.ldC (C : Cx p s m meth c Z own nm bytes maxL ret) (X : Stand p l e R s m args below meth c T locs cells slots) {a : Addr} {k : ClassId} {vs : List Value} {j : Int32} {i : Nat} {v : Value} (eT : T.heap = h) (F : AL Z h a k .char vs) (hj : ¬ j < 0) (hji : j.toNatClampNeg = i) (hv : vs[i]? = some v) (hd : decode bytes pc = .ok (.caload, 1)) (hp : pc + 1 = pc')
    (K : Go p e below Fin' T (mkF m pc' Ls (v :: S))) : Go p e below Fin' T (mkF m pc Ls (.int j :: .ref a :: S)) := by
  subst hp
  subst hji
  obtain ⟨cl, A, q1, q2⟩ := F
  have hlt : j.toNatClampNeg < vs.length := (List.getElem?_eq_some_iff.mp hv).1
  exact K.via fun t k => X.caload C.1 (j := j) (v := v) (by rw [eT]; exact A.1) (State.isArrayOf_alike C.2.1.alike A.2.1) A.2.2 (fun q => q.elim hj fun y => by rw [q2] at y; simp at y; omega) (by rw [q2]; simpa using hv) (g := mkF m pc Ls (.int j :: .ref a :: S)) rfl rfl (hb C.2.2.2.1 hd) t k
theorem Go.ldB (C : Cx p s m meth c Z own nm bytes maxL ret) (X : Stand p l e R s m args below meth c T locs cells slots) {a : Addr} {k : ClassId} {vs : List Value} {j : Int32} {i : Nat} {v : Value} (eT : T.heap = h) (F : AL Z h a k .byte vs) (hj : ¬ j < 0) (hji : j.toNatClampNeg = i) (hv : vs[i]? = some v) (hd : decode bytes pc = .ok (.baload, 1)) (hp : pc + 1 = pc')
    (K : Go p e below Fin' T (mkF m pc' Ls (v :: S))) : Go p e below Fin' T (mkF m pc Ls (.int j :: .ref a :: S)) := by
  subst hp
  subst hji
  obtain ⟨cl, A, q1, q2⟩ := F
  have hlt : j.toNatClampNeg < vs.length := (List.getElem?_eq_some_iff.mp hv).1
  exact K.via fun t k => X.baloadBytes C.1 (j := j) (v := v) (by rw [eT]; exact A.1) (State.isArrayOf_alike C.2.1.alike A.2.1) A.2.2 (fun q => q.elim hj fun y => by rw [q2] at y; simp at y; omega) (by rw [q2]; simpa using hv) (g := mkF m pc Ls (.int j :: .ref a :: S)) rfl rfl (hb C.2.2.2.1 hd) t k
theorem Go.ldZ (C : Cx p s m meth c Z own nm bytes maxL ret) (X : Stand p l e R s m args below meth c T locs cells slots) {a : Addr} {k : ClassId} {vs : List Value} {j : Int32} {i : Nat} {v : Value} (eT : T.heap = h) (F : AL Z h a k .boolean vs) (hj : ¬ j < 0) (hji : j.toNatClampNeg = i) (hv : vs[i]? = some v) (hd : decode bytes pc = .ok (.baload, 1)) (hp : pc + 1 = pc')
    (K : Go p e below Fin' T (mkF m pc' Ls (v :: S))) : Go p e below Fin' T (mkF m pc Ls (.int j :: .ref a :: S)) := by
  subst hp
  subst hji
  obtain ⟨cl, A, q1, q2⟩ := F
  have hlt : j.toNatClampNeg < vs.length := (List.getElem?_eq_some_iff.mp hv).1
  exact K.via fun t k => X.baloadBooleans C.1 (j := j) (v := v) (by rw [eT]; exact A.1) (State.isArrayOf_alike C.2.1.alike A.2.1) A.2.2 (fun q => q.elim hj fun y => by rw [q2] at y; simp at y; omega) (by rw [q2]; simpa using hv) (g := mkF m pc Ls (.int j :: .ref a :: S)) rfl rfl (hb C.2.2.2.1 hd) t k
theorem Go.ldJ (C : Cx p s m meth c Z own nm bytes maxL ret) (X : Stand p l e R s m args below meth c T locs cells slots) {a : Addr} {k : ClassId} {vs : List Value} {j : Int32} {i : Nat} {v : Value} (eT : T.heap = h) (F : AL Z h a k .long vs) (hj : ¬ j < 0) (hji : j.toNatClampNeg = i) (hv : vs[i]? = some v) (hd : decode bytes pc = .ok (.laload, 1)) (hp : pc + 1 = pc')
    (K : Go p e below Fin' T (mkF m pc' Ls (v :: S))) : Go p e below Fin' T (mkF m pc Ls (.int j :: .ref a :: S)) := by
  subst hp
  subst hji
  obtain ⟨cl, A, q1, q2⟩ := F
  have hlt : j.toNatClampNeg < vs.length := (List.getElem?_eq_some_iff.mp hv).1
  exact K.via fun t k => X.laload C.1 (j := j) (v := v) (by rw [eT]; exact A.1) (State.isArrayOf_alike C.2.1.alike A.2.1) A.2.2 (fun q => q.elim hj fun y => by rw [q2] at y; simp at y; omega) (by rw [q2]; simpa using hv) (g := mkF m pc Ls (.int j :: .ref a :: S)) rfl rfl (hb C.2.2.2.1 hd) t k
theorem Go.ldR (C : Cx p s m meth c Z own nm bytes maxL ret) (X : Stand p l e R s m args below meth c T locs cells slots) {a : Addr} {k : ClassId} {vs : List Value} {j : Int32} {i : Nat} {v : Value} {ty : FieldType} (eT : T.heap = h) (F : AL Z h a k ty vs) (hj : ¬ j < 0) (hji : j.toNatClampNeg = i) (hv : vs[i]? = some v) (hty : ty.isReference = true) (hd : decode bytes pc = .ok (.aaload, 1)) (hp : pc + 1 = pc')
    (K : Go p e below Fin' T (mkF m pc' Ls (v :: S))) : Go p e below Fin' T (mkF m pc Ls (.int j :: .ref a :: S)) := by
  subst hp
  subst hji
  obtain ⟨cl, A, q1, q2⟩ := F
  have hlt : j.toNatClampNeg < vs.length := (List.getElem?_eq_some_iff.mp hv).1
  exact K.via fun t k => X.aaload C.1 (j := j) (v := v) (by rw [eT]; exact A.1) (State.isArrayOf_alike C.2.1.alike A.2.1) hty A.2.2 (fun q => q.elim hj fun y => by rw [q2] at y; simp at y; omega) (by rw [q2]; simpa using hv) (g := mkF m pc Ls (.int j :: .ref a :: S)) rfl rfl (hb C.2.2.2.1 hd) t k
theorem Go.alen (C : Cx p s m meth c Z own nm bytes maxL ret) (X : Stand p l e R s m args below meth c T locs cells slots) {a : Addr} {k : ClassId} {ty : FieldType} {vs : List Value} {z : Int32} (eT : T.heap = h) (F : AL Z h a k ty vs) (hz : vs.length.toInt32 = z) (hd : decode bytes pc = .ok (.arraylength, 1)) (hp : pc + 1 = pc')
    (K : Go p e below Fin' T (mkF m pc' Ls (.int z :: S))) : Go p e below Fin' T (mkF m pc Ls (.ref a :: S)) := by
  subst hp
  subst hz
  obtain ⟨cl, A, q1, q2⟩ := F
  have q3 : cl.slots.size = vs.length := by rw [q2]; simp
  refine K.via fun t k => X.arraylength C.1 (by rw [eT]; exact A.1) (State.isArrayOf_alike C.2.1.alike A.2.1) (g := mkF m pc Ls (.ref a :: S)) rfl rfl (hb C.2.2.2.1 hd) t ?_
  rw [q3]; exact k
theorem Go.ldcR (C : Cx p s m meth c Z own nm bytes maxL ret) (X : Stand p l e R s m args below meth c T locs cells slots) {idx : Nat} {text : String} {a : Addr} (w : (Cond.stringRef own idx text).before a0 Z = true) (L : Lit Z own idx a) (hd : decode bytes pc = .ok (.ldc idx, 2)) (hp : pc + 2 = pc')
    (K : Go p e below Fin' T (mkF m pc' Ls (.ref a :: S))) : Go p e below Fin' T (mkF m pc Ls S) := by
  subst hp
  exact K.via (Jvm.RoadKit.ldcR X C.1 C.2.1 C.2.2.1 w L (g := mkF m pc Ls S) rfl (hb C.2.2.2.1 hd))
/-! calls -/
theorem Go.initO (C : Cx p s m meth c Z own nm bytes maxL ret) (X : Stand p l e R s m args below meth c T locs cells slots) {idx : Nat} {a : Addr} (w1 : (Cond.methodLink own idx Lib.objectInit).before a0 Z = true) (w2 : (Cond.instanceMethod Lib.objectInit).before a0 Z = true) (w3 : (Cond.code Lib.objectInit ⟨#[0xb1]⟩ 1 none).before a0 Z = true) (eT : T.heap = h) (hls : Ls.size = maxL) (hf : 1 ≤ R.frames) {W : Nat} (hW : (S.map fun v => v.category).sum ≤ W) (hl : W + 12 ≤ R.locals) (hd : decode bytes pc = .ok (.invokespecial idx, 3)) (hp : pc + 3 = pc')
    (K : ∀ T', Stand p l e R s m args below meth c T' locs cells slots → T'.heap = h → Go p e below Fin' T' (mkF m pc' Ls S)) : Go p e below Fin' T (mkF m pc Ls (.ref a :: S)) := by
  subst hp
  obtain ⟨T', X', e', st⟩ := Jvm.RoadKit.initO X C.1 C.2.1 C.2.2.1 w1 w2 w3 eT (g := mkF m pc Ls (.ref a :: S)) rfl (by rw [C.2.2.2.2.1]; exact hls) rfl (hb C.2.2.2.1 hd) hf (W := W) (by show 2 * 0 + _ ≤ _; omega) hl
  exact (K T' X' e').via st
theorem Go.callS (C : Cx p s m meth c Z own nm bytes maxL ret) (X : Stand p l e R s m args below meth c T locs cells slots) {idx : Nat} {y : MethodName} {bytes' : ByteArray} {maxL' : Nat} {ret' : Option FieldType} {rm : Room} {as' : Array Value} {Q' : Option Value → Heap → List Loc → Prop} {argsL rest : List Value} {ps : List FieldType} {r : Option FieldType} {W : Nat} (w1 : (Cond.methodLink own idx y).before a0 Z = true) (w2 : (Cond.static y).before a0 Z = true) (hy : y.cls ≠ "java/lang/invoke/MethodHandle" ∧ y.cls ≠ "java/lang/invoke/VarHandle") (M : Met1 l Z y bytes' maxL' ret' rm as' h Q') (wc : (Cond.code y bytes' maxL' ret').before a0 Z = true) (wz : (Cond.initialized y.cls).before a0 Z = true) (eT : T.heap = h) (hS : S = argsL.reverse ++ rest) (has : (argsL).toArray = as') (pd : parseMethodDescriptor y.desc = some ⟨ps, r⟩) (hlen : argsL.length = ps.length) (hW : (rest.map fun v => v.category).sum ≤ W) (hls : Ls.size = maxL) (hf : rm.frames + 1 ≤ R.frames) (hlo : W + (maxL' + 11) + rm.locals ≤ R.locals) (hc : cells + rm.cells ≤ R.cells) (hs : slots + rm.slots ≤ R.slots) (hd : decode bytes pc = .ok (.invokestatic idx, 3)) (hp : pc + 3 = pc')
    (K : ∀ T' v L, Stand p l e R s m args below meth c T' (locs ++ L) (cells + rm.cells) (slots + rm.slots) → Q' v T'.heap L → Go p e below Fin' T' (mkF m pc' Ls (v.toList ++ rest))) : Go p e below Fin' T (mkF m pc Ls S) := by
  subst hp
  subst hS has
  obtain ⟨v, _, ⟨T', L', k', n'⟩, -, X', ⟨L, hQ, l', y', z'⟩, st⟩ := Jvm.LawKit.callS X C.1 (y := y) C.2.2.1 (mvT C.2.1 w1) (mvT C.2.1 w2) (mvT C.2.1 wz) (mvT C.2.1 wc) hy (backOf (W := W) (M []) C.2.1 wc wz hf hlo) (g := mkF m pc Ls (argsL.reverse ++ rest)) rfl (by show Ls.size = _; rw [C.2.2.2.2.1]; exact hls) (argsL := argsL) (rest := rest) (lenOf pd hlen) rfl (by show 2 * 0 + _ ≤ _; omega) (hb C.2.2.2.1 hd) (fun _ _ => ⟨rfl, eT, hc, hs⟩)
  dsimp only [Pt.U, Pt.locs, Pt.cells, Pt.slots] at X' l' y' z' st hQ
  subst l' y' z'
  exact (K T' v L X' hQ).via st
theorem Go.callI (C : Cx p s m meth c Z own nm bytes maxL ret) (X : Stand p l e R s m args below meth c T locs cells slots) {idx : Nat} {y : MethodName} {a : Addr} {bytes' : ByteArray} {maxL' : Nat} {ret' : Option FieldType} {rm : Room} {as' : Array Value} {Q' : Option Value → Heap → List Loc → Prop} {argsL rest : List Value} {ps : List FieldType} {r : Option FieldType} {W : Nat} (hini : y.name = "<init>") (w1 : (Cond.methodLink own idx y).before a0 Z = true) (w2 : (Cond.instanceMethod y).before a0 Z = true) (hy : y.cls ≠ "java/lang/invoke/MethodHandle" ∧ y.cls ≠ "java/lang/invoke/VarHandle") (M : Met1 l Z y bytes' maxL' ret' rm as' h Q') (wc : (Cond.code y bytes' maxL' ret').before a0 Z = true) (wz : (Cond.initialized y.cls).before a0 Z = true) (eT : T.heap = h) (hS : S = argsL.reverse ++ .ref a :: rest) (has : (.ref a :: argsL).toArray = as') (pd : parseMethodDescriptor y.desc = some ⟨ps, r⟩) (hlen : argsL.length = ps.length) (hW : (rest.map fun v => v.category).sum ≤ W) (hls : Ls.size = maxL) (hf : rm.frames + 1 ≤ R.frames) (hlo : W + (maxL' + 11) + rm.locals ≤ R.locals) (hc : cells + rm.cells ≤ R.cells) (hs : slots + rm.slots ≤ R.slots) (hr0 : ret' = none) (hd : decode bytes pc = .ok (.invokespecial idx, 3)) (hp : pc + 3 = pc')
    (K : ∀ T' v L, Stand p l e R s m args below meth c T' (locs ++ L) (cells + rm.cells) (slots + rm.slots) → Q' v T'.heap L → Go p e below Fin' T' (mkF m pc' Ls (v.toList ++ rest))) : Go p e below Fin' T (mkF m pc Ls S) := by
  subst hp
  subst hr0
  subst hS has
  obtain ⟨v, _, ⟨T', L', k', n'⟩, -, X', ⟨L, hQ, l', y', z'⟩, st⟩ := X.specialBack C.1 (y := y) hini C.2.2.1 (mvT C.2.1 w1) (mvT C.2.1 w2) (mvT C.2.1 wc) hy (backOf (W := W) (M []) C.2.1 wc wz hf hlo) (g := mkF m pc Ls (argsL.reverse ++ .ref a :: rest)) rfl (by show Ls.size = _; rw [C.2.2.2.2.1]; exact hls) (Steps.refl _) (a := a) (argsL := argsL) (rest := rest) (lenOf pd hlen) rfl (by show 2 * 0 + _ ≤ _; omega) (hb C.2.2.2.1 hd) (fun _ _ => ⟨rfl, eT, hc, hs⟩)
  dsimp only [Pt.U, Pt.locs, Pt.cells, Pt.slots] at X' l' y' z' st hQ
  subst l' y' z'
  exact (K T' v L X' hQ).via fun t k => st.trans k
theorem Go.callP (C : Cx p s m meth c Z own nm bytes maxL ret) (X : Stand p l e R s m args below meth c T locs cells slots) {idx : Nat} {y : MethodName} {a : Addr} {K1 : String} {bytes' : ByteArray} {maxL' : Nat} {ret' : Option FieldType} {rm : Room} {as' : Array Value} {Q' : Option Value → Heap → List Loc → Prop} {argsL rest : List Value} {ps : List FieldType} {r : Option FieldType} {W : Nat} (w1 : (Cond.methodLink own idx y).before a0 Z = true) (w2 : (Cond.instanceMethod y).before a0 Z = true) (w3 : (Cond.selects y.cls y y).before a0 Z = true) (w4 : (Cond.privateMethod y).before a0 Z = true) (E : Exa Z h a K1) (hy : y.cls ≠ "java/lang/invoke/MethodHandle" ∧ y.cls ≠ "java/lang/invoke/VarHandle") (M : Met1 l Z y bytes' maxL' ret' rm as' h Q') (wc : (Cond.code y bytes' maxL' ret').before a0 Z = true) (wz : (Cond.initialized y.cls).before a0 Z = true) (eT : T.heap = h) (hS : S = argsL.reverse ++ .ref a :: rest) (has : (.ref a :: argsL).toArray = as') (pd : parseMethodDescriptor y.desc = some ⟨ps, r⟩) (hlen : argsL.length = ps.length) (hW : (rest.map fun v => v.category).sum ≤ W) (hls : Ls.size = maxL) (hf : rm.frames + 1 ≤ R.frames) (hlo : W + (maxL' + 11) + rm.locals ≤ R.locals) (hc : cells + rm.cells ≤ R.cells) (hs : slots + rm.slots ≤ R.slots) (hd : decode bytes pc = .ok (.invokevirtual idx, 3)) (hp : pc + 3 = pc')
    (K : ∀ T' v L, Stand p l e R s m args below meth c T' (locs ++ L) (cells + rm.cells) (slots + rm.slots) → Q' v T'.heap L → Go p e below Fin' T' (mkF m pc' Ls (v.toList ++ rest))) : Go p e below Fin' T (mkF m pc Ls S) := by
  subst hp
  obtain ⟨cq, q1, q2⟩ := E.cell
  subst hS has
  obtain ⟨v, _, ⟨T', L', k', n'⟩, -, X', ⟨L, hQ, l', y', z'⟩, st⟩ := X.privateBack C.1 (y := y) C.2.2.1 (mvT C.2.1 w1) (mvT C.2.1 w2) (mvT C.2.1 w3) (Cond.privateMethod_at (mvP C.2.1 w4 (args := #[]))) (mvT C.2.1 wc) hy (backOf (W := W) (M []) C.2.1 wc wz hf hlo) (g := mkF m pc Ls (argsL.reverse ++ .ref a :: rest)) rfl (by show Ls.size = _; rw [C.2.2.2.2.1]; exact hls) (Steps.refl _) (a := a) (by rw [eT]; exact q1) q2 (argsL := argsL) (rest := rest) (lenOf pd hlen) rfl (by show 2 * 0 + _ ≤ _; omega) (hb C.2.2.2.1 hd) (fun _ _ => ⟨rfl, eT, hc, hs⟩)
  dsimp only [Pt.U, Pt.locs, Pt.cells, Pt.slots] at X' l' y' z' st hQ
  subst l' y' z'
  exact (K T' v L X' hQ).via fun t k => st.trans k
theorem Go.callV (C : Cx p s m meth c Z own nm bytes maxL ret) (X : Stand p l e R s m args below meth c T locs cells slots) {idx : Nat} {y z : MethodName} {a : Addr} {K1 : String} {bytes' : ByteArray} {maxL' : Nat} {ret' : Option FieldType} {rm : Room} {as' : Array Value} {Q' : Option Value → Heap → List Loc → Prop} {argsL rest : List Value} {ps : List FieldType} {r : Option FieldType} {W : Nat} (w1 : (Cond.methodLink own idx y).before a0 Z = true) (w2 : (Cond.declares y).before a0 Z = true) (hnf : NotFace s y) (w3 : (Cond.selects K1 y z).before a0 Z = true) (w4 : (Cond.instanceMethod z).before a0 Z = true) (E : Exa Z h a K1) (hy : y.cls ≠ "java/lang/invoke/MethodHandle" ∧ y.cls ≠ "java/lang/invoke/VarHandle") (M : Met1 l Z z bytes' maxL' ret' rm as' h Q') (wc : (Cond.code z bytes' maxL' ret').before a0 Z = true) (wz : (Cond.initialized z.cls).before a0 Z = true) (eT : T.heap = h) (hS : S = argsL.reverse ++ .ref a :: rest) (has : (.ref a :: argsL).toArray = as') (pd : parseMethodDescriptor y.desc = some ⟨ps, r⟩) (hlen : argsL.length = ps.length) (hW : (rest.map fun v => v.category).sum ≤ W) (hls : Ls.size = maxL) (hf : rm.frames + 1 ≤ R.frames) (hlo : W + (maxL' + 11) + rm.locals ≤ R.locals) (hc : cells + rm.cells ≤ R.cells) (hs : slots + rm.slots ≤ R.slots) (hd : decode bytes pc = .ok (.invokevirtual idx, 3)) (hp : pc + 3 = pc')
    (K : ∀ T' v L, Stand p l e R s m args below meth c T' (locs ++ L) (cells + rm.cells) (slots + rm.slots) → Q' v T'.heap L → Go p e below Fin' T' (mkF m pc' Ls (v.toList ++ rest))) : Go p e below Fin' T (mkF m pc Ls S) := by
  subst hp
  obtain ⟨cq, kq, qa, qb, qc⟩ := isOf C.2.1 eT E
  subst hS has
  obtain ⟨v, _, ⟨T', L', k', n'⟩, -, X', ⟨L, hQ, l', y', z'⟩, st⟩ := X.virtualBack C.1 (y := y) (z := z) C.2.2.1 (mvT C.2.1 w1) (mvT C.2.1 w2) hnf (mvT C.2.1 w3) (mvT C.2.1 w4) hy (backOf (W := W) (M []) C.2.1 wc wz hf hlo) qa qc (g := mkF m pc Ls (argsL.reverse ++ .ref a :: rest)) rfl (by show Ls.size = _; rw [C.2.2.2.2.1]; exact hls) (Steps.refl _) (argsL := argsL) (rest := rest) (lenOf pd hlen) rfl (by show 2 * 0 + _ ≤ _; omega) (hb C.2.2.2.1 hd) (fun _ _ => ⟨rfl, eT, hc, hs⟩)
  dsimp only [Pt.U, Pt.locs, Pt.cells, Pt.slots] at X' l' y' z' st hQ
  subst l' y' z'
  exact (K T' v L X' hQ).via fun t k => st.trans k
theorem Go.callF (C : Cx p s m meth c Z own nm bytes maxL ret) (X : Stand p l e R s m args below meth c T locs cells slots) {idx count : Nat} {y z : MethodName} {a : Addr} {K1 : String} {bytes' : ByteArray} {maxL' : Nat} {ret' : Option FieldType} {rm : Room} {as' : Array Value} {Q' : Option Value → Heap → List Loc → Prop} {argsL rest : List Value} {ps : List FieldType} {r : Option FieldType} {W : Nat} (w1 : (Cond.methodLink own idx y).before a0 Z = true) (w2 : (Cond.declares y).before a0 Z = true) (w3 : (Cond.interfaceMethod y.cls y.cls y.name y.desc).before a0 Z = true) (w4 : (Cond.selects K1 y z).before a0 Z = true) (w5 : (Cond.instanceMethod z).before a0 Z = true) (w6 : (Cond.publicMethod z).before a0 Z = true) (w7 : (Cond.unhidden K1 y.name y.desc).before a0 Z = true) (w8 : (Cond.castable K1 y.cls).before a0 Z = true) (hfa : ((Cond.interfaceMethod y.cls y.cls y.name y.desc).onTables && (Cond.interfaceMethod y.cls y.cls y.name y.desc).keepsFace) = true) (E : Exa Z h a K1) (hy : y.cls ≠ "java/lang/invoke/MethodHandle" ∧ y.cls ≠ "java/lang/invoke/VarHandle") (M : Met1 l Z z bytes' maxL' ret' rm as' h Q') (wc : (Cond.code z bytes' maxL' ret').before a0 Z = true) (wz : (Cond.initialized z.cls).before a0 Z = true) (eT : T.heap = h) (hS : S = argsL.reverse ++ .ref a :: rest) (has : (.ref a :: argsL).toArray = as') (pd : parseMethodDescriptor y.desc = some ⟨ps, r⟩) (hlen : argsL.length = ps.length) (hW : (rest.map fun v => v.category).sum ≤ W) (hls : Ls.size = maxL) (hf : rm.frames + 1 ≤ R.frames) (hlo : W + (maxL' + 11) + rm.locals ≤ R.locals) (hc : cells + rm.cells ≤ R.cells) (hs : slots + rm.slots ≤ R.slots) (hd : decode bytes pc = .ok (.invokeinterface idx count, 5)) (hp : pc + 5 = pc')
    (K : ∀ T' v L, Stand p l e R s m args below meth c T' (locs ++ L) (cells + rm.cells) (slots + rm.slots) → Q' v T'.heap L → Go p e below Fin' T' (mkF m pc' Ls (v.toList ++ rest))) : Go p e below Fin' T (mkF m pc Ls S) := by
  subst hp
  obtain ⟨cq, kq, qa, qb, qc⟩ := isOf C.2.1 eT E
  subst hS has
  obtain ⟨v, _, ⟨T', L', k', n'⟩, -, X', ⟨L, hQ, l', y', z'⟩, st⟩ := X.interfaceBack C.1 (xi := y) (y := z) C.2.2.1 (mvT C.2.1 w1) (mvT C.2.1 w2) (mvT C.2.1 w3 hfa) (mvT C.2.1 w4) (mvT C.2.1 w5) (mvT C.2.1 w6) (mvT C.2.1 w7) (mvT C.2.1 w8) hy (backOf (W := W) (M []) C.2.1 wc wz hf hlo) qa qb qc (g := mkF m pc Ls (argsL.reverse ++ .ref a :: rest)) rfl (by show Ls.size = _; rw [C.2.2.2.2.1]; exact hls) (Steps.refl _) (argsL := argsL) (rest := rest) (lenOf pd hlen) rfl (by show 2 * 0 + _ ≤ _; omega) (hb C.2.2.2.1 hd) (fun _ _ => ⟨rfl, eT, hc, hs⟩)
  dsimp only [Pt.U, Pt.locs, Pt.cells, Pt.slots] at X' l' y' z' st hQ
  subst l' y' z'
  exact (K T' v L X' hQ).via fun t k => st.trans k
theorem notFace_at {y : MethodName} {K1 : String} (hZ : Z.Warmed39 s.vm) (w : (Cond.selects K1 y y).before a0 Z = true) : NotFace s y := notFace_of_selects (args := #[]) (mvT hZ w)
end Own
end Jvm.RoadKit

namespace Jvm.Pilot.@@N@@
open Jvm Jvm.ClassFile Sem Op Lib Jvm.Free Jvm.Stand Jvm.LawKit Jvm.RoadKit Bundle Jvm.Pilot.@@N@@.Jvm.D
theorem pf_1 : plainFor (⟨"com/example/opacheck/opacheck/PrecedenceTraversal$Neighbours", "<init>", "(I)V"⟩ : MethodName) = true := plainFor_of_name (by first | (simp [plainName, overriddenIn]; done) | decide +kernel)
theorem d1_0 : decode prog_47_method_1_code 0 = .ok (.aload_n 0, 1) := by decide +kernel
theorem d1_1 : decode prog_47_method_1_code 1 = .ok (.invokespecial 1, 3) := by decide +kernel
theorem d1_4 : decode prog_47_method_1_code 4 = .ok (.aload_n 0, 1) := by decide +kernel
theorem d1_5 : decode prog_47_method_1_code 5 = .ok (.bipush 16, 2) := by decide +kernel
theorem d1_7 : decode prog_47_method_1_code 7 = .ok (.newarray .int, 2) := by decide +kernel
theorem d1_9 : decode prog_47_method_1_code 9 = .ok (.putfield 7, 3) := by decide +kernel
theorem d1_12 : decode prog_47_method_1_code 12 = .ok (.aload_n 0, 1) := by decide +kernel
theorem d1_13 : decode prog_47_method_1_code 13 = .ok (.bipush 48, 2) := by decide +kernel
theorem d1_15 : decode prog_47_method_1_code 15 = .ok (.newarray .int, 2) := by decide +kernel
theorem d1_17 : decode prog_47_method_1_code 17 = .ok (.putfield 13, 3) := by decide +kernel
theorem d1_20 : decode prog_47_method_1_code 20 = .ok (.aload_n 0, 1) := by decide +kernel
theorem d1_21 : decode prog_47_method_1_code 21 = .ok (.iload_n 1, 1) := by decide +kernel
theorem d1_22 : decode prog_47_method_1_code 22 = .ok (.putfield 16, 3) := by decide +kernel
theorem d1_25 : decode prog_47_method_1_code 25 = .ok (.return_, 1) := by decide +kernel
def Q_nb (Z : State) (r : Addr) (cnt : Int32) (h0 : Heap) (rv : Option Value) (h : Heap) (L : List Loc) : Prop := ∃ v : Addr, ∃ k : ClassId, rv = none ∧ Fr Z.heap.size L ∧ Keep h0 h [r] ∧ h0.size ≤ v ∧ Fld Z h r "com/example/opacheck/opacheck/PrecedenceTraversal$Neighbours" "members" "[I" (.ref v) ∧ AL Z h v k .int [(.int (0 : Int32)), (.int (0 : Int32)), (.int (0 : Int32)), (.int (0 : Int32)), (.int (0 : Int32)), (.int (0 : Int32)), (.int (0 : Int32)), (.int (0 : Int32)), (.int (0 : Int32)), (.int (0 : Int32)), (.int (0 : Int32)), (.int (0 : Int32)), (.int (0 : Int32)), (.int (0 : Int32)), (.int (0 : Int32)), (.int (0 : Int32))] ∧ Fld Z h r "com/example/opacheck/opacheck/PrecedenceTraversal$Neighbours" "count" "I" (.int cnt) ∧ Fld Z h r "com/example/opacheck/opacheck/PrecedenceTraversal$Neighbours" "size" "I" (.int (0 : Int32)) ∧ Fld Z h r "com/example/opacheck/opacheck/PrecedenceTraversal$Neighbours" "rangesSize" "I" (.int (0 : Int32))
set_option maxRecDepth 65536 in
set_option maxHeartbeats 40000000 in
theorem rm_nb (l : Launch) (Z : State) (a0 : Array Value) (hw : ∀ d ∈ tables_1, d.before a0 Z = true) (r : Addr) (cnt : Int32) (h0 : Heap) (O0 : Ext Z.heap h0) (E0 : Exa Z h0 r "com/example/opacheck/opacheck/PrecedenceTraversal$Neighbours") (F1 : Fld Z h0 r "com/example/opacheck/opacheck/PrecedenceTraversal$Neighbours" "members" "[I" .null) (F2 : Fld Z h0 r "com/example/opacheck/opacheck/PrecedenceTraversal$Neighbours" "ranges" "[I" .null) (F3 : Fld Z h0 r "com/example/opacheck/opacheck/PrecedenceTraversal$Neighbours" "count" "I" (.int (0 : Int32))) (F4 : Fld Z h0 r "com/example/opacheck/opacheck/PrecedenceTraversal$Neighbours" "size" "I" (.int (0 : Int32))) (F5 : Fld Z h0 r "com/example/opacheck/opacheck/PrecedenceTraversal$Neighbours" "rangesSize" "I" (.int (0 : Int32))) (hn : Z.heap.size ≤ r) :
    Met1 l Z (⟨"com/example/opacheck/opacheck/PrecedenceTraversal$Neighbours", "<init>", "(I)V"⟩ : MethodName) prog_47_method_1_code 2 none ({ frames := 1, cells := 2, slots := 64, locals := 12 } : Room) #[(.ref r), (.int cnt)] h0 (Q_nb Z r cnt h0) := by
  refine Met1.of_body (Ls := #[.val (.ref r), .val (.int cnt)]) pf_1 (fun m => by first | (simp [entryFrame, mkF, argsToLocals, Value.category]; done) | rfl) ?_
  intro p e s m below meth c T0 C X0 e0
  have N0 : Fr Z.heap.size [] := Fr.nil _
  refine Go.aloadN (pc' := 1) C X0 d1_0 rfl rfl rfl ?_
  refine Go.initO (pc' := 4) (W := 0) C X0 (hw _ (List.mem_of_getElem? (i := 7) rfl)) (hw _ (List.mem_of_getElem? (i := 8) rfl)) (hw _ (List.mem_of_getElem? (i := 9) rfl)) e0 rfl (by decide) (Nat.le_of_eq rfl) (by decide) d1_1 rfl ?_
  intro T101 X101 e101
  refine Go.aloadN (pc' := 5) C X101 d1_4 rfl rfl rfl ?_
  refine Go.bipush (z := (16 : Int32)) (pc' := 7) C X101 d1_5 rfl rfl ?_
  refine Go.newP (aty := .int) (cap := 16) (vs := [(.int (0 : Int32)), (.int (0 : Int32)), (.int (0 : Int32)), (.int (0 : Int32)), (.int (0 : Int32)), (.int (0 : Int32)), (.int (0 : Int32)), (.int (0 : Int32)), (.int (0 : Int32)), (.int (0 : Int32)), (.int (0 : Int32)), (.int (0 : Int32)), (.int (0 : Int32)), (.int (0 : Int32)), (.int (0 : Int32)), (.int (0 : Int32))]) (ad := "[I") (pc' := 9) C X101 (by decide) (hw _ (List.mem_of_getElem? (i := 10) rfl)) e101 (by decide) (by decide) (by decide) (by decide) (by decide) rfl d1_7 rfl ?_
  intro T102 h102 b102 k102 X102 e102 g102 E102 A102 Ea102
  have n_b102 : Z.heap.size ≤ b102 := Nat.le_trans O0.1 (Nat.le_of_eq g102.symm)
  have z_b102 : h0.size ≤ b102 := Nat.le_trans (Nat.le_refl _) (Nat.le_of_eq g102.symm)
  have A102 : AL Z h102 b102 k102 .int [(.int (0 : Int32)), (.int (0 : Int32)), (.int (0 : Int32)), (.int (0 : Int32)), (.int (0 : Int32)), (.int (0 : Int32)), (.int (0 : Int32)), (.int (0 : Int32)), (.int (0 : Int32)), (.int (0 : Int32)), (.int (0 : Int32)), (.int (0 : Int32)), (.int (0 : Int32)), (.int (0 : Int32)), (.int (0 : Int32)), (.int (0 : Int32))] := A102
  have c104 : Fld Z h102 r "com/example/opacheck/opacheck/PrecedenceTraversal$Neighbours" "members" "[I" .null := (Fld.ext E102 F1)
  have c105 : Exa Z h102 r "com/example/opacheck/opacheck/PrecedenceTraversal$Neighbours" := (Exa.ext E102 E0)
  refine Go.putF (pc' := 12) (host := "") (ty := (.array .int)) C X102 (Or.inl (hw _ (List.mem_of_getElem? (i := 11) rfl))) Via.refl e102 c104 c105 (Or.inl (hw _ (List.mem_of_getElem? (i := 12) rfl))) (hw _ (List.mem_of_getElem? (i := 2) rfl)) (by decide) rfl rfl d1_9 rfl ?_
  intro T103 h103 X103 e103 W103 F103
  have N103 := Fr.snoc X103 N0 hn
  refine Go.aloadN (pc' := 13) C X103 d1_12 rfl rfl rfl ?_
  refine Go.bipush (z := (48 : Int32)) (pc' := 15) C X103 d1_13 rfl rfl ?_
  have O107 : Ext Z.heap h103 := (Ext.wr (Ext.trans O0 E102) W103 hn)
  refine Go.newP (aty := .int) (cap := 48) (vs := [(.int (0 : Int32)), (.int (0 : Int32)), (.int (0 : Int32)), (.int (0 : Int32)), (.int (0 : Int32)), (.int (0 : Int32)), (.int (0 : Int32)), (.int (0 : Int32)), (.int (0 : Int32)), (.int (0 : Int32)), (.int (0 : Int32)), (.int (0 : Int32)), (.int (0 : Int32)), (.int (0 : Int32)), (.int (0 : Int32)), (.int (0 : Int32)), (.int (0 : Int32)), (.int (0 : Int32)), (.int (0 : Int32)), (.int (0 : Int32)), (.int (0 : Int32)), (.int (0 : Int32)), (.int (0 : Int32)), (.int (0 : Int32)), (.int (0 : Int32)), (.int (0 : Int32)), (.int (0 : Int32)), (.int (0 : Int32)), (.int (0 : Int32)), (.int (0 : Int32)), (.int (0 : Int32)), (.int (0 : Int32)), (.int (0 : Int32)), (.int (0 : Int32)), (.int (0 : Int32)), (.int (0 : Int32)), (.int (0 : Int32)), (.int (0 : Int32)), (.int (0 : Int32)), (.int (0 : Int32)), (.int (0 : Int32)), (.int (0 : Int32)), (.int (0 : Int32)), (.int (0 : Int32)), (.int (0 : Int32)), (.int (0 : Int32)), (.int (0 : Int32)), (.int (0 : Int32))]) (ad := "[I") (pc' := 17) C X103 (by decide) (hw _ (List.mem_of_getElem? (i := 10) rfl)) e103 (by decide) (by decide) (by decide) (by decide) (by decide) rfl d1_15 rfl ?_
  intro T106 h106 b106 k106 X106 e106 g106 E106 A106 Ea106
  have n_b106 : Z.heap.size ≤ b106 := Nat.le_trans O107.1 (Nat.le_of_eq g106.symm)
  have z_b106 : h0.size ≤ b106 := Nat.le_trans (Nat.le_trans (Nat.le_trans (Nat.le_refl _) E102.1) (Nat.le_of_eq W103.size.symm)) (Nat.le_of_eq g106.symm)
  have A106 : AL Z h106 b106 k106 .int [(.int (0 : Int32)), (.int (0 : Int32)), (.int (0 : Int32)), (.int (0 : Int32)), (.int (0 : Int32)), (.int (0 : Int32)), (.int (0 : Int32)), (.int (0 : Int32)), (.int (0 : Int32)), (.int (0 : Int32)), (.int (0 : Int32)), (.int (0 : Int32)), (.int (0 : Int32)), (.int (0 : Int32)), (.int (0 : Int32)), (.int (0 : Int32)), (.int (0 : Int32)), (.int (0 : Int32)), (.int (0 : Int32)), (.int (0 : Int32)), (.int (0 : Int32)), (.int (0 : Int32)), (.int (0 : Int32)), (.int (0 : Int32)), (.int (0 : Int32)), (.int (0 : Int32)), (.int (0 : Int32)), (.int (0 : Int32)), (.int (0 : Int32)), (.int (0 : Int32)), (.int (0 : Int32)), (.int (0 : Int32)), (.int (0 : Int32)), (.int (0 : Int32)), (.int (0 : Int32)), (.int (0 : Int32)), (.int (0 : Int32)), (.int (0 : Int32)), (.int (0 : Int32)), (.int (0 : Int32)), (.int (0 : Int32)), (.int (0 : Int32)), (.int (0 : Int32)), (.int (0 : Int32)), (.int (0 : Int32)), (.int (0 : Int32)), (.int (0 : Int32)), (.int (0 : Int32))] := A106
  have c109 : Fld Z h106 r "com/example/opacheck/opacheck/PrecedenceTraversal$Neighbours" "ranges" "[I" .null := (Fld.ext E106 (Fld.other W103 (Fld.ext E102 F2) (Or.inr (slot_ne (Or.inl (hw _ (List.mem_of_getElem? (i := 14) rfl))) (Or.inl (hw _ (List.mem_of_getElem? (i := 12) rfl))) (by decide) (t := (.array .int)) (t' := (.array .int)) (by decide) (by decide)))))
  have c110 : Exa Z h106 r "com/example/opacheck/opacheck/PrecedenceTraversal$Neighbours" := (Exa.ext E106 (Exa.wr W103 c105))
  refine Go.putF (pc' := 20) (host := "") (ty := (.array .int)) C X106 (Or.inl (hw _ (List.mem_of_getElem? (i := 13) rfl))) Via.refl e106 c109 c110 (Or.inl (hw _ (List.mem_of_getElem? (i := 14) rfl))) (hw _ (List.mem_of_getElem? (i := 2) rfl)) (by decide) rfl rfl d1_17 rfl ?_
  intro T108 h108 X108 e108 W108 F108
  have N108 := Fr.snoc X108 N103 hn
  refine Go.aloadN (pc' := 21) C X108 d1_20 rfl rfl rfl ?_
  refine Go.iloadN (pc' := 22) C X108 d1_21 rfl rfl ?_
  have c112 : Fld Z h108 r "com/example/opacheck/opacheck/PrecedenceTraversal$Neighbours" "count" "I" (.int (0 : Int32)) := (Fld.other W108 (Fld.ext E106 (Fld.other W103 (Fld.ext E102 F3) (Or.inr (slot_ne (Or.inr (hw _ (List.mem_of_getElem? (i := 16) rfl))) (Or.inl (hw _ (List.mem_of_getElem? (i := 12) rfl))) (by decide) (t := .int) (t' := (.array .int)) (by decide) (by decide))))) (Or.inr (slot_ne (Or.inr (hw _ (List.mem_of_getElem? (i := 16) rfl))) (Or.inl (hw _ (List.mem_of_getElem? (i := 14) rfl))) (by decide) (t := .int) (t' := (.array .int)) (by decide) (by decide))))
  have c113 : Exa Z h108 r "com/example/opacheck/opacheck/PrecedenceTraversal$Neighbours" := (Exa.wr W108 c110)
  refine Go.putF (pc' := 25) (host := "") (ty := .int) C X108 (Or.inl (hw _ (List.mem_of_getElem? (i := 15) rfl))) Via.refl e108 c112 c113 (Or.inr ⟨(hw _ (List.mem_of_getElem? (i := 16) rfl)), rfl, rfl⟩) (hw _ (List.mem_of_getElem? (i := 2) rfl)) (by decide) rfl rfl d1_22 rfl ?_
  intro T111 h111 X111 e111 W111 F111
  have N111 := Fr.snoc X111 N108 hn
  have K114 : Keep h0 h111 [r] := ((((((Keep.refl h0 [r]).ext E102).wr W103 (Or.inl (by simp))).ext E106).wr W108 (Or.inl (by simp))).wr W111 (Or.inl (by simp)))
  have c115 : Fld Z h111 r "com/example/opacheck/opacheck/PrecedenceTraversal$Neighbours" "members" "[I" (.ref b102) := (Fld.other W111 (Fld.other W108 (Fld.ext E106 F103) (Or.inr (slot_ne (Or.inl (hw _ (List.mem_of_getElem? (i := 12) rfl))) (Or.inl (hw _ (List.mem_of_getElem? (i := 14) rfl))) (by decide) (t := (.array .int)) (t' := (.array .int)) (by decide) (by decide)))) (Or.inr (slot_ne (Or.inl (hw _ (List.mem_of_getElem? (i := 12) rfl))) (Or.inr (hw _ (List.mem_of_getElem? (i := 16) rfl))) (by decide) (t := (.array .int)) (t' := .int) (by decide) (by decide))))
  have ne116 : b102 ≠ r := (Nat.ne_of_gt (Nat.lt_of_lt_of_le E0.lt (Nat.le_trans (Nat.le_refl _) (Nat.le_of_eq g102.symm))))
  have c117 : AL Z h111 b102 k102 .int [(.int (0 : Int32)), (.int (0 : Int32)), (.int (0 : Int32)), (.int (0 : Int32)), (.int (0 : Int32)), (.int (0 : Int32)), (.int (0 : Int32)), (.int (0 : Int32)), (.int (0 : Int32)), (.int (0 : Int32)), (.int (0 : Int32)), (.int (0 : Int32)), (.int (0 : Int32)), (.int (0 : Int32)), (.int (0 : Int32)), (.int (0 : Int32))] := (AL.other W111 (AL.other W108 (AL.ext E106 (AL.other W103 A102 ne116)) ne116) ne116)
  have c118 : Fld Z h111 r "com/example/opacheck/opacheck/PrecedenceTraversal$Neighbours" "size" "I" (.int (0 : Int32)) := (Fld.other W111 (Fld.other W108 (Fld.ext E106 (Fld.other W103 (Fld.ext E102 F4) (Or.inr (slot_ne (Or.inl (hw _ (List.mem_of_getElem? (i := 27) rfl))) (Or.inl (hw _ (List.mem_of_getElem? (i := 12) rfl))) (by decide) (t := .int) (t' := (.array .int)) (by decide) (by decide))))) (Or.inr (slot_ne (Or.inl (hw _ (List.mem_of_getElem? (i := 27) rfl))) (Or.inl (hw _ (List.mem_of_getElem? (i := 14) rfl))) (by decide) (t := .int) (t' := (.array .int)) (by decide) (by decide)))) (Or.inr (slot_ne (Or.inl (hw _ (List.mem_of_getElem? (i := 27) rfl))) (Or.inr (hw _ (List.mem_of_getElem? (i := 16) rfl))) (by decide) (t := .int) (t' := .int) (by decide) (by decide))))
  have c119 : Fld Z h111 r "com/example/opacheck/opacheck/PrecedenceTraversal$Neighbours" "rangesSize" "I" (.int (0 : Int32)) := (Fld.other W111 (Fld.other W108 (Fld.ext E106 (Fld.other W103 (Fld.ext E102 F5) (Or.inr (slot_ne (Or.inl (hw _ (List.mem_of_getElem? (i := 43) rfl))) (Or.inl (hw _ (List.mem_of_getElem? (i := 12) rfl))) (by decide) (t := .int) (t' := (.array .int)) (by decide) (by decide))))) (Or.inr (slot_ne (Or.inl (hw _ (List.mem_of_getElem? (i := 43) rfl))) (Or.inl (hw _ (List.mem_of_getElem? (i := 14) rfl))) (by decide) (t := .int) (t' := (.array .int)) (by decide) (by decide)))) (Or.inr (slot_ne (Or.inl (hw _ (List.mem_of_getElem? (i := 43) rfl))) (Or.inr (hw _ (List.mem_of_getElem? (i := 16) rfl))) (by decide) (t := .int) (t' := .int) (by decide) (by decide))))
  exact Go.retV C X111 rfl d1_25 (by rw [e111]; exact ⟨b102, k102, rfl, N111, K114, z_b102, c115, c117, F111, c118, c119⟩) (by decide) (by decide)
theorem pf_5 : plainFor (⟨"java/lang/Math", "min", "(II)I"⟩ : MethodName) = true := Jvm.Free.JP.mathPlain rfl (by decide +kernel)
theorem d5_0 : decode jdk_29_method_69_code 0 = .ok (.iload_n 0, 1) := by decide +kernel
theorem d5_1 : decode jdk_29_method_69_code 1 = .ok (.iload_n 1, 1) := by decide +kernel
theorem d5_2 : decode jdk_29_method_69_code 2 = .ok (.if_icmp .gt 7, 3) := by decide +kernel
theorem d5_9 : decode jdk_29_method_69_code 9 = .ok (.iload_n 1, 1) := by decide +kernel
theorem d5_10 : decode jdk_29_method_69_code 10 = .ok (.ireturn, 1) := by decide +kernel
def Q_min (Z : State)  (h0 : Heap) (rv : Option Value) (h : Heap) (L : List Loc) : Prop := rv = some (.int (0 : Int32)) ∧ L = [] ∧ h = h0
set_option maxRecDepth 65536 in
set_option maxHeartbeats 40000000 in
theorem rm_min (l : Launch) (Z : State) (a0 : Array Value) (hw : ∀ d ∈ tables_1, d.before a0 Z = true)  (h0 : Heap) (O0 : Ext Z.heap h0) :
    Met1 l Z (⟨"java/lang/Math", "min", "(II)I"⟩ : MethodName) jdk_29_method_69_code 2 (some .int) ({ frames := 0, cells := 0, slots := 0, locals := 0 } : Room) #[(.int (16 : Int32)), (.int (0 : Int32))] h0 (Q_min Z  h0) := by
  refine Met1.of_body (Ls := #[.val (.int (16 : Int32)), .val (.int (0 : Int32))]) pf_5 (fun m => by first | (simp [entryFrame, mkF, argsToLocals, Value.category]; done) | rfl) ?_
  intro p e s m below meth c T0 C X0 e0
  have N0 : Fr Z.heap.size [] := Fr.nil _
  refine Go.iloadN (pc' := 1) C X0 d5_0 rfl rfl ?_
  refine Go.iloadN (pc' := 2) C X0 d5_1 rfl rfl ?_
  refine Go.icmpYes (pc' := 9) C X0 d5_2 (tlt (x := (0 : Int32)) (y := (16 : Int32)) (by decide)).2.2.1 (by decide) (by decide) ?_
  refine Go.iloadN (pc' := 10) C X0 d5_9 rfl rfl ?_
  exact Go.retI C X0 rfl d5_10 (by rw [e0]; exact ⟨rfl, rfl, rfl⟩) (by decide) (by decide)
theorem pd_0 : parseMethodDescriptor "(II)I" = some ⟨[.int, .int], some .int⟩ := by decide +kernel
theorem pf_4 : plainFor (⟨"java/util/Arrays", "copyOf", "([II)[I"⟩ : MethodName) = true := plainFor_of_name (by first | (simp [plainName, overriddenIn]; done) | decide +kernel)
theorem d4_0 : decode jdk_65_method_123_code 0 = .ok (.iload_n 1, 1) := by decide +kernel
theorem d4_1 : decode jdk_65_method_123_code 1 = .ok (.aload_n 0, 1) := by decide +kernel
theorem d4_2 : decode jdk_65_method_123_code 2 = .ok (.arraylength, 1) := by decide +kernel
theorem d4_3 : decode jdk_65_method_123_code 3 = .ok (.if_icmp .ne 11, 3) := by decide +kernel
theorem d4_14 : decode jdk_65_method_123_code 14 = .ok (.iload_n 1, 1) := by decide +kernel
theorem d4_15 : decode jdk_65_method_123_code 15 = .ok (.newarray .int, 2) := by decide +kernel
theorem d4_17 : decode jdk_65_method_123_code 17 = .ok (.astore_n 2, 1) := by decide +kernel
theorem d4_18 : decode jdk_65_method_123_code 18 = .ok (.aload_n 0, 1) := by decide +kernel
theorem d4_19 : decode jdk_65_method_123_code 19 = .ok (.iconst 0, 1) := by decide +kernel
theorem d4_20 : decode jdk_65_method_123_code 20 = .ok (.aload_n 2, 1) := by decide +kernel
theorem d4_21 : decode jdk_65_method_123_code 21 = .ok (.iconst 0, 1) := by decide +kernel
theorem d4_22 : decode jdk_65_method_123_code 22 = .ok (.aload_n 0, 1) := by decide +kernel
theorem d4_23 : decode jdk_65_method_123_code 23 = .ok (.arraylength, 1) := by decide +kernel
theorem d4_24 : decode jdk_65_method_123_code 24 = .ok (.iload_n 1, 1) := by decide +kernel
theorem d4_25 : decode jdk_65_method_123_code 25 = .ok (.invokestatic 304, 3) := by decide +kernel
theorem d4_28 : decode jdk_65_method_123_code 28 = .ok (.invokestatic 150, 3) := by decide +kernel
theorem d4_31 : decode jdk_65_method_123_code 31 = .ok (.aload_n 2, 1) := by decide +kernel
theorem d4_32 : decode jdk_65_method_123_code 32 = .ok (.areturn, 1) := by decide +kernel
def Q_cpy (Z : State) (a : Addr) (k : ClassId) (h0 : Heap) (rv : Option Value) (h : Heap) (L : List Loc) : Prop := ∃ b : Addr, ∃ kb : ClassId, rv = some (.ref b) ∧ Fr Z.heap.size L ∧ Keep h0 h [] ∧ h0.size ≤ b ∧ AL Z h b kb .int []
set_option maxRecDepth 65536 in
set_option maxHeartbeats 40000000 in
theorem rm_cpy (l : Launch) (Z : State) (a0 : Array Value) (hw : ∀ d ∈ tables_1, d.before a0 Z = true) (a : Addr) (k : ClassId) (h0 : Heap) (O0 : Ext Z.heap h0) (A0 : AL Z h0 a k .int [(.int (0 : Int32)), (.int (0 : Int32)), (.int (0 : Int32)), (.int (0 : Int32)), (.int (0 : Int32)), (.int (0 : Int32)), (.int (0 : Int32)), (.int (0 : Int32)), (.int (0 : Int32)), (.int (0 : Int32)), (.int (0 : Int32)), (.int (0 : Int32)), (.int (0 : Int32)), (.int (0 : Int32)), (.int (0 : Int32)), (.int (0 : Int32))]) :
    Met1 l Z (⟨"java/util/Arrays", "copyOf", "([II)[I"⟩ : MethodName) jdk_65_method_123_code 3 (some (.array .int)) ({ frames := 1, cells := 1, slots := 0, locals := 18 } : Room) #[(.ref a), (.int (0 : Int32))] h0 (Q_cpy Z a k h0) := by
  refine Met1.of_body (Ls := #[.val (.ref a), .val (.int (0 : Int32)), .unset]) pf_4 (fun m => by first | (simp [entryFrame, mkF, argsToLocals, Value.category]; done) | rfl) ?_
  intro p e s m below meth c T0 C X0 e0
  have N0 : Fr Z.heap.size [] := Fr.nil _
  refine Go.iloadN (pc' := 1) C X0 d4_0 rfl rfl ?_
  refine Go.aloadN (pc' := 2) C X0 d4_1 rfl rfl rfl ?_
  refine Go.alen (z := (16 : Int32)) (pc' := 3) C X0 e0 A0 rfl d4_2 rfl ?_
  refine Go.icmpYes (pc' := 14) C X0 d4_3 (feq (x := (0 : Int32)) (y := (16 : Int32)) (by decide)).2 (by decide) (by decide) ?_
  refine Go.iloadN (pc' := 15) C X0 d4_14 rfl rfl ?_
  refine Go.newP (aty := .int) (cap := 0) (vs := []) (ad := "[I") (pc' := 17) C X0 (by decide) (hw _ (List.mem_of_getElem? (i := 10) rfl)) e0 (by decide) (by decide) (by decide) (by decide) (by decide) rfl d4_15 rfl ?_
  intro T102 h102 b102 k102 X102 e102 g102 E102 A102 Ea102
  have n_b102 : Z.heap.size ≤ b102 := Nat.le_trans O0.1 (Nat.le_of_eq g102.symm)
  have z_b102 : h0.size ≤ b102 := Nat.le_trans (Nat.le_refl _) (Nat.le_of_eq g102.symm)
  have A102 : AL Z h102 b102 k102 .int [] := A102
  refine Go.astoreN (Ls' := #[.val (.ref a), .val (.int (0 : Int32)), .val (.ref b102)]) (pc' := 18) C X102 d4_17 rfl rfl rfl ?_
  refine Go.aloadN (pc' := 19) C X102 d4_18 rfl rfl rfl ?_
  refine Go.iconst (z := (0 : Int32)) (pc' := 20) C X102 d4_19 rfl rfl ?_
  refine Go.aloadN (pc' := 21) C X102 d4_20 rfl rfl rfl ?_
  refine Go.iconst (z := (0 : Int32)) (pc' := 22) C X102 d4_21 rfl rfl ?_
  refine Go.aloadN (pc' := 23) C X102 d4_22 rfl rfl rfl ?_
  have c103 : AL Z h102 a k .int [(.int (0 : Int32)), (.int (0 : Int32)), (.int (0 : Int32)), (.int (0 : Int32)), (.int (0 : Int32)), (.int (0 : Int32)), (.int (0 : Int32)), (.int (0 : Int32)), (.int (0 : Int32)), (.int (0 : Int32)), (.int (0 : Int32)), (.int (0 : Int32)), (.int (0 : Int32)), (.int (0 : Int32)), (.int (0 : Int32)), (.int (0 : Int32))] := (AL.ext E102 A0)
  refine Go.alen (z := (16 : Int32)) (pc' := 24) C X102 e102 c103 rfl d4_23 rfl ?_
  refine Go.iloadN (pc' := 25) C X102 d4_24 rfl rfl ?_
  have O105 : Ext Z.heap h102 := (Ext.trans O0 E102)
  refine Go.callS (y := (⟨"java/lang/Math", "min", "(II)I"⟩ : MethodName)) (pc' := 28) C X102 (hw _ (List.mem_of_getElem? (i := 32) rfl)) (hw _ (List.mem_of_getElem? (i := 33) rfl)) (by decide) (rm_min l Z a0 hw  h102 O105 ) (hw _ (List.mem_of_getElem? (i := 35) rfl)) (hw _ (List.mem_of_getElem? (i := 34) rfl)) e102 (argsL := [(.int (16 : Int32)), (.int (0 : Int32))]) (rest := [(.int (0 : Int32)), (.ref b102), (.int (0 : Int32)), (.ref a)]) (W := 4) rfl rfl pd_0 rfl (Nat.le_of_eq rfl) rfl (by decide) (by decide) (by decide) (by decide) d4_25 rfl ?_
  intro T104 v104 L104 X104 q104
  obtain ⟨rfl, rfl, e104⟩ := q104
  have N104 := Fr.app N0 (Fr.nil _)
  refine Go.arrcopy (i := 0) (j := 0) (n := 0) (vd' := []) (W := 0) (n0 := Z.heap.size) (pc' := 31) C X104 (hw _ (List.mem_of_getElem? (i := 36) rfl)) (hw _ (List.mem_of_getElem? (i := 39) rfl)) (hw _ (List.mem_of_getElem? (i := 37) rfl)) (hw _ (List.mem_of_getElem? (i := 38) rfl)) e104 c103 A102 (by simp [fits]) (by simp [fits]) (by simp) (by simp) (Or.inl ⟨rfl, rfl⟩) (by decide) (by decide) (by decide) (by decide) (by decide) (by decide) (by simp) (by simp) rfl N104 n_b102 rfl (by decide) (Nat.le_of_eq rfl) (by decide) d4_28 rfl ?_
  intro T106 h106 L106 X106 e106 N106 K106 A106
  refine Go.aloadN (pc' := 32) C X106 d4_31 rfl rfl rfl ?_
  have K107 : Keep h0 h106 [] := (((Keep.refl h0 []).ext E102).trans K106 (allS (Or.inr z_b102) all0))
  exact Go.retA C X106 rfl d4_32 rfl rfl rfl (by rw [e106]; exact ⟨b102, k102, rfl, N106, K107, z_b102, A106⟩) (by decide) (by decide)
theorem pd_1 : parseMethodDescriptor "([II)[I" = some ⟨[(.array .int), .int], some (.array .int)⟩ := by decide +kernel
theorem pf_3 : plainFor (⟨"com/example/opacheck/opacheck/PrecedenceTraversal", "<init>", "(Lcom/example/opacheck/opacheck/PrecedenceTraversal$Neighbours;)V"⟩ : MethodName) = true := plainFor_of_name (by first | (simp [plainName, overriddenIn]; done) | decide +kernel)
theorem d3_0 : decode prog_45_method_2_code 0 = .ok (.aload_n 0, 1) := by decide +kernel
theorem d3_1 : decode prog_45_method_2_code 1 = .ok (.invokespecial 7, 3) := by decide +kernel
theorem d3_4 : decode prog_45_method_2_code 4 = .ok (.aload_n 1, 1) := by decide +kernel
theorem d3_5 : decode prog_45_method_2_code 5 = .ok (.getfield 13, 3) := by decide +kernel
theorem d3_8 : decode prog_45_method_2_code 8 = .ok (.istore_n 2, 1) := by decide +kernel
theorem d3_9 : decode prog_45_method_2_code 9 = .ok (.aload_n 0, 1) := by decide +kernel
theorem d3_10 : decode prog_45_method_2_code 10 = .ok (.aload_n 1, 1) := by decide +kernel
theorem d3_11 : decode prog_45_method_2_code 11 = .ok (.getfield 19, 3) := by decide +kernel
theorem d3_14 : decode prog_45_method_2_code 14 = .ok (.aload_n 1, 1) := by decide +kernel
theorem d3_15 : decode prog_45_method_2_code 15 = .ok (.getfield 23, 3) := by decide +kernel
theorem d3_18 : decode prog_45_method_2_code 18 = .ok (.invokestatic 26, 3) := by decide +kernel
theorem d3_21 : decode prog_45_method_2_code 21 = .ok (.putfield 32, 3) := by decide +kernel
theorem d3_24 : decode prog_45_method_2_code 24 = .ok (.iload_n 2, 1) := by decide +kernel
theorem d3_25 : decode prog_45_method_2_code 25 = .ok (.newarray .int, 2) := by decide +kernel
theorem d3_27 : decode prog_45_method_2_code 27 = .ok (.astore_n 3, 1) := by decide +kernel
theorem d3_28 : decode prog_45_method_2_code 28 = .ok (.iconst 0, 1) := by decide +kernel
theorem d3_29 : decode prog_45_method_2_code 29 = .ok (.istore 4, 2) := by decide +kernel
theorem d3_31 : decode prog_45_method_2_code 31 = .ok (.iload 4, 2) := by decide +kernel
theorem d3_33 : decode prog_45_method_2_code 33 = .ok (.aload_n 1, 1) := by decide +kernel
theorem d3_34 : decode prog_45_method_2_code 34 = .ok (.getfield 35, 3) := by decide +kernel
theorem d3_37 : decode prog_45_method_2_code 37 = .ok (.if_icmp .ge 22, 3) := by decide +kernel
theorem d3_59 : decode prog_45_method_2_code 59 = .ok (.aload_n 0, 1) := by decide +kernel
theorem d3_60 : decode prog_45_method_2_code 60 = .ok (.iload_n 2, 1) := by decide +kernel
theorem d3_61 : decode prog_45_method_2_code 61 = .ok (.anewarray 41, 3) := by decide +kernel
theorem d3_64 : decode prog_45_method_2_code 64 = .ok (.putfield 42, 3) := by decide +kernel
theorem d3_67 : decode prog_45_method_2_code 67 = .ok (.iconst 0, 1) := by decide +kernel
theorem d3_68 : decode prog_45_method_2_code 68 = .ok (.istore 4, 2) := by decide +kernel
theorem d3_70 : decode prog_45_method_2_code 70 = .ok (.iload 4, 2) := by decide +kernel
theorem d3_72 : decode prog_45_method_2_code 72 = .ok (.iload_n 2, 1) := by decide +kernel
theorem d3_73 : decode prog_45_method_2_code 73 = .ok (.if_icmp .ge 24, 3) := by decide +kernel
theorem d3_76 : decode prog_45_method_2_code 76 = .ok (.aload_n 0, 1) := by decide +kernel
theorem d3_77 : decode prog_45_method_2_code 77 = .ok (.getfield 42, 3) := by decide +kernel
theorem d3_80 : decode prog_45_method_2_code 80 = .ok (.iload 4, 2) := by decide +kernel
theorem d3_82 : decode prog_45_method_2_code 82 = .ok (.iconst 2, 1) := by decide +kernel
theorem d3_83 : decode prog_45_method_2_code 83 = .ok (.aload_n 3, 1) := by decide +kernel
theorem d3_84 : decode prog_45_method_2_code 84 = .ok (.iload 4, 2) := by decide +kernel
theorem d3_86 : decode prog_45_method_2_code 86 = .ok (.iaload, 1) := by decide +kernel
theorem d3_87 : decode prog_45_method_2_code 87 = .ok (.imul, 1) := by decide +kernel
theorem d3_88 : decode prog_45_method_2_code 88 = .ok (.newarray .int, 2) := by decide +kernel
theorem d3_90 : decode prog_45_method_2_code 90 = .ok (.aastore, 1) := by decide +kernel
theorem d3_91 : decode prog_45_method_2_code 91 = .ok (.iinc 4 1, 3) := by decide +kernel
theorem d3_94 : decode prog_45_method_2_code 94 = .ok (.goto (-24), 3) := by decide +kernel
theorem d3_97 : decode prog_45_method_2_code 97 = .ok (.iload_n 2, 1) := by decide +kernel
theorem d3_98 : decode prog_45_method_2_code 98 = .ok (.newarray .int, 2) := by decide +kernel
theorem d3_100 : decode prog_45_method_2_code 100 = .ok (.astore 4, 2) := by decide +kernel
theorem d3_102 : decode prog_45_method_2_code 102 = .ok (.iconst 0, 1) := by decide +kernel
theorem d3_103 : decode prog_45_method_2_code 103 = .ok (.istore 5, 2) := by decide +kernel
theorem d3_105 : decode prog_45_method_2_code 105 = .ok (.iload 5, 2) := by decide +kernel
theorem d3_107 : decode prog_45_method_2_code 107 = .ok (.aload_n 1, 1) := by decide +kernel
theorem d3_108 : decode prog_45_method_2_code 108 = .ok (.getfield 35, 3) := by decide +kernel
theorem d3_111 : decode prog_45_method_2_code 111 = .ok (.if_icmp .ge 72, 3) := by decide +kernel
theorem d3_183 : decode prog_45_method_2_code 183 = .ok (.aload_n 0, 1) := by decide +kernel
theorem d3_184 : decode prog_45_method_2_code 184 = .ok (.iload_n 2, 1) := by decide +kernel
theorem d3_185 : decode prog_45_method_2_code 185 = .ok (.newarray .int, 2) := by decide +kernel
theorem d3_187 : decode prog_45_method_2_code 187 = .ok (.putfield 45, 3) := by decide +kernel
theorem d3_190 : decode prog_45_method_2_code 190 = .ok (.aload_n 0, 1) := by decide +kernel
theorem d3_191 : decode prog_45_method_2_code 191 = .ok (.iload_n 2, 1) := by decide +kernel
theorem d3_192 : decode prog_45_method_2_code 192 = .ok (.newarray .int, 2) := by decide +kernel
theorem d3_194 : decode prog_45_method_2_code 194 = .ok (.putfield 48, 3) := by decide +kernel
theorem d3_197 : decode prog_45_method_2_code 197 = .ok (.aload_n 0, 1) := by decide +kernel
theorem d3_198 : decode prog_45_method_2_code 198 = .ok (.aload_n 0, 1) := by decide +kernel
theorem d3_199 : decode prog_45_method_2_code 199 = .ok (.getfield 32, 3) := by decide +kernel
theorem d3_202 : decode prog_45_method_2_code 202 = .ok (.arraylength, 1) := by decide +kernel
theorem d3_203 : decode prog_45_method_2_code 203 = .ok (.iconst 1, 1) := by decide +kernel
theorem d3_204 : decode prog_45_method_2_code 204 = .ok (.iadd, 1) := by decide +kernel
theorem d3_205 : decode prog_45_method_2_code 205 = .ok (.newarray .int, 2) := by decide +kernel
theorem d3_207 : decode prog_45_method_2_code 207 = .ok (.putfield 51, 3) := by decide +kernel
theorem d3_210 : decode prog_45_method_2_code 210 = .ok (.aload_n 0, 1) := by decide +kernel
theorem d3_211 : decode prog_45_method_2_code 211 = .ok (.aload_n 0, 1) := by decide +kernel
theorem d3_212 : decode prog_45_method_2_code 212 = .ok (.getfield 32, 3) := by decide +kernel
theorem d3_215 : decode prog_45_method_2_code 215 = .ok (.arraylength, 1) := by decide +kernel
theorem d3_216 : decode prog_45_method_2_code 216 = .ok (.iconst 1, 1) := by decide +kernel
theorem d3_217 : decode prog_45_method_2_code 217 = .ok (.iadd, 1) := by decide +kernel
theorem d3_218 : decode prog_45_method_2_code 218 = .ok (.newarray .int, 2) := by decide +kernel
theorem d3_220 : decode prog_45_method_2_code 220 = .ok (.putfield 54, 3) := by decide +kernel
theorem d3_223 : decode prog_45_method_2_code 223 = .ok (.aload_n 0, 1) := by decide +kernel
theorem d3_224 : decode prog_45_method_2_code 224 = .ok (.iload_n 2, 1) := by decide +kernel
theorem d3_225 : decode prog_45_method_2_code 225 = .ok (.newarray .int, 2) := by decide +kernel
theorem d3_227 : decode prog_45_method_2_code 227 = .ok (.putfield 57, 3) := by decide +kernel
theorem d3_230 : decode prog_45_method_2_code 230 = .ok (.return_, 1) := by decide +kernel
def Q_ct1 (Z : State) (r : Addr) (q : Addr) (v : Addr) (k : ClassId) (h0 : Heap) (rv : Option Value) (h : Heap) (L : List Loc) : Prop := ∃ vi : Addr, ∃ ki : ClassId, ∃ vp : Addr, ∃ kp : ClassId, rv = none ∧ Fr Z.heap.size L ∧ Keep h0 h [r] ∧ h0.size ≤ vi ∧ h0.size ≤ vp ∧ Fld Z h r "com/example/opacheck/opacheck/PrecedenceTraversal" "visitedIn" "[I" (.ref vi) ∧ AL Z h vi ki .int [(.int (0 : Int32))] ∧ Fld Z h r "com/example/opacheck/opacheck/PrecedenceTraversal" "positions" "[I" (.ref vp) ∧ AL Z h vp kp .int [(.int (0 : Int32))] ∧ Fld Z h r "com/example/opacheck/opacheck/PrecedenceTraversal" "number" "I" (.int (0 : Int32)) ∧ Fld Z h r "com/example/opacheck/opacheck/PrecedenceTraversal" "scope" "Ljava/util/function/IntPredicate;" .null ∧ vi ≠ vp
set_option maxRecDepth 65536 in
set_option maxHeartbeats 40000000 in
theorem rm_ct1 (l : Launch) (Z : State) (a0 : Array Value) (hw : ∀ d ∈ tables_1, d.before a0 Z = true) (r : Addr) (q : Addr) (v : Addr) (k : ClassId) (h0 : Heap) (O0 : Ext Z.heap h0) (E0 : Exa Z h0 r "com/example/opacheck/opacheck/PrecedenceTraversal") (Fmembers : Fld Z h0 r "com/example/opacheck/opacheck/PrecedenceTraversal" "members" "[I" .null) (Franges : Fld Z h0 r "com/example/opacheck/opacheck/PrecedenceTraversal" "ranges" "[[I" .null) (FvisitedIn : Fld Z h0 r "com/example/opacheck/opacheck/PrecedenceTraversal" "visitedIn" "[I" .null) (Fpositions : Fld Z h0 r "com/example/opacheck/opacheck/PrecedenceTraversal" "positions" "[I" .null) (Flinks : Fld Z h0 r "com/example/opacheck/opacheck/PrecedenceTraversal" "links" "[I" .null) (FlinkedIn : Fld Z h0 r "com/example/opacheck/opacheck/PrecedenceTraversal" "linkedIn" "[I" .null) (Fpath : Fld Z h0 r "com/example/opacheck/opacheck/PrecedenceTraversal" "path" "[I" .null) (Fnum : Fld Z h0 r "com/example/opacheck/opacheck/PrecedenceTraversal" "number" "I" (.int (0 : Int32))) (Fsc : Fld Z h0 r "com/example/opacheck/opacheck/PrecedenceTraversal" "scope" "Ljava/util/function/IntPredicate;" .null) (Gm : Fld Z h0 q "com/example/opacheck/opacheck/PrecedenceTraversal$Neighbours" "members" "[I" (.ref v)) (Am : AL Z h0 v k .int [(.int (0 : Int32)), (.int (0 : Int32)), (.int (0 : Int32)), (.int (0 : Int32)), (.int (0 : Int32)), (.int (0 : Int32)), (.int (0 : Int32)), (.int (0 : Int32)), (.int (0 : Int32)), (.int (0 : Int32)), (.int (0 : Int32)), (.int (0 : Int32)), (.int (0 : Int32)), (.int (0 : Int32)), (.int (0 : Int32)), (.int (0 : Int32))]) (Gs : Fld Z h0 q "com/example/opacheck/opacheck/PrecedenceTraversal$Neighbours" "size" "I" (.int (0 : Int32))) (Gr : Fld Z h0 q "com/example/opacheck/opacheck/PrecedenceTraversal$Neighbours" "rangesSize" "I" (.int (0 : Int32))) (Gc : Fld Z h0 q "com/example/opacheck/opacheck/PrecedenceTraversal$Neighbours" "count" "I" (.int (1 : Int32))) (hn : Z.heap.size ≤ r) (hne : r ≠ q) (hnv : r ≠ v) :
    Met1 l Z (⟨"com/example/opacheck/opacheck/PrecedenceTraversal", "<init>", "(Lcom/example/opacheck/opacheck/PrecedenceTraversal$Neighbours;)V"⟩ : MethodName) prog_45_method_2_code 7 none ({ frames := 2, cells := 17, slots := 50, locals := 33 } : Room) #[(.ref r), (.ref q)] h0 (Q_ct1 Z r q v k h0) := by
  refine Met1.of_body (Ls := #[.val (.ref r), .val (.ref q), .unset, .unset, .unset, .unset, .unset]) pf_3 (fun m => by first | (simp [entryFrame, mkF, argsToLocals, Value.category]; done) | rfl) ?_
  intro p e s m below meth c T0 C X0 e0
  have N0 : Fr Z.heap.size [] := Fr.nil _
  refine Go.aloadN (pc' := 1) C X0 d3_0 rfl rfl rfl ?_
  refine Go.initO (pc' := 4) (W := 0) C X0 (hw _ (List.mem_of_getElem? (i := 23) rfl)) (hw _ (List.mem_of_getElem? (i := 8) rfl)) (hw _ (List.mem_of_getElem? (i := 9) rfl)) e0 rfl (by decide) (Nat.le_of_eq rfl) (by decide) d3_1 rfl ?_
  intro T101 X101 e101
  refine Go.aloadN (pc' := 5) C X101 d3_4 rfl rfl rfl ?_
  refine Go.getFR (pc' := 8) C X101 (hw _ (List.mem_of_getElem? (i := 24) rfl)) e101 Gc d3_5 rfl ?_
  refine Go.istoreN (Ls' := #[.val (.ref r), .val (.ref q), .val (.int (1 : Int32)), .unset, .unset, .unset, .unset]) (pc' := 9) C X101 d3_8 rfl rfl ?_
  refine Go.aloadN (pc' := 10) C X101 d3_9 rfl rfl rfl ?_
  refine Go.aloadN (pc' := 11) C X101 d3_10 rfl rfl rfl ?_
  refine Go.getFR (pc' := 14) C X101 (hw _ (List.mem_of_getElem? (i := 25) rfl)) e101 Gm d3_11 rfl ?_
  refine Go.aloadN (pc' := 15) C X101 d3_14 rfl rfl rfl ?_
  refine Go.getFR (pc' := 18) C X101 (hw _ (List.mem_of_getElem? (i := 26) rfl)) e101 Gs d3_15 rfl ?_
  refine Go.callS (y := (⟨"java/util/Arrays", "copyOf", "([II)[I"⟩ : MethodName)) (pc' := 21) C X101 (hw _ (List.mem_of_getElem? (i := 28) rfl)) (hw _ (List.mem_of_getElem? (i := 29) rfl)) (by decide) (rm_cpy l Z a0 hw v k h0 O0 Am) (hw _ (List.mem_of_getElem? (i := 31) rfl)) (hw _ (List.mem_of_getElem? (i := 30) rfl)) e101 (argsL := [(.ref v), (.int (0 : Int32))]) (rest := [(.ref r)]) (W := 1) rfl rfl pd_1 rfl (Nat.le_of_eq rfl) rfl (by decide) (by decide) (by decide) (by decide) d3_18 rfl ?_
  intro T105 v105 L105 X105 q105
  obtain ⟨b_105, kb_105, rfl, N105q, K105, B105_0, P105_0⟩ := q105
  have N105 := Fr.app N0 N105q
  have n_b_105 : Z.heap.size ≤ b_105 := Nat.le_trans O0.1 B105_0
  have z_b_105 : h0.size ≤ b_105 := Nat.le_trans (Nat.le_refl _) B105_0
  have c107 : Fld Z T105.heap r "com/example/opacheck/opacheck/PrecedenceTraversal" "members" "[I" .null := (Fld.keep Fmembers K105 nin0)
  have c108 : Exa Z T105.heap r "com/example/opacheck/opacheck/PrecedenceTraversal" := (Exa.keep E0 K105)
  refine Go.putF (pc' := 24) (host := "") (ty := (.array .int)) C X105 (Or.inl (hw _ (List.mem_of_getElem? (i := 40) rfl))) Via.refl rfl c107 c108 (Or.inr ⟨(hw _ (List.mem_of_getElem? (i := 41) rfl)), rfl, rfl⟩) (hw _ (List.mem_of_getElem? (i := 18) rfl)) (by decide) rfl rfl d3_21 rfl ?_
  intro T106 h106 X106 e106 W106 F106
  have N106 := Fr.snoc X106 N105 hn
  refine Go.iloadN (pc' := 25) C X106 d3_24 rfl rfl ?_
  have O110 : Ext Z.heap h106 := (Ext.wr (Ext.keep O0 K105 all0) W106 hn)
  refine Go.newP (aty := .int) (cap := 1) (vs := [(.int (0 : Int32))]) (ad := "[I") (pc' := 27) C X106 (by decide) (hw _ (List.mem_of_getElem? (i := 10) rfl)) e106 (by decide) (by decide) (by decide) (by decide) (by decide) rfl d3_25 rfl ?_
  intro T109 h109 b109 k109 X109 e109 g109 E109 A109 Ea109
  have n_b109 : Z.heap.size ≤ b109 := Nat.le_trans O110.1 (Nat.le_of_eq g109.symm)
  have z_b109 : h0.size ≤ b109 := Nat.le_trans (Nat.le_trans (Nat.le_trans (Nat.le_refl _) K105.1) (Nat.le_of_eq W106.size.symm)) (Nat.le_of_eq g109.symm)
  have A109 : AL Z h109 b109 k109 .int [(.int (0 : Int32))] := A109
  refine Go.astoreN (Ls' := #[.val (.ref r), .val (.ref q), .val (.int (1 : Int32)), .val (.ref b109), .unset, .unset, .unset]) (pc' := 28) C X109 d3_27 rfl rfl rfl ?_
  refine Go.iconst (z := (0 : Int32)) (pc' := 29) C X109 d3_28 rfl rfl ?_
  refine Go.istore (Ls' := #[.val (.ref r), .val (.ref q), .val (.int (1 : Int32)), .val (.ref b109), .val (.int (0 : Int32)), .unset, .unset]) (pc' := 31) C X109 d3_29 rfl rfl ?_
  refine Go.iload (pc' := 33) C X109 d3_31 rfl rfl ?_
  refine Go.aloadN (pc' := 34) C X109 d3_33 rfl rfl rfl ?_
  have c112 : Fld Z h109 q "com/example/opacheck/opacheck/PrecedenceTraversal$Neighbours" "rangesSize" "I" (.int (0 : Int32)) := (Fld.ext E109 (Fld.other W106 (Fld.keep Gr K105 nin0) (Or.inl (Ne.symm hne))))
  refine Go.getFR (pc' := 37) C X109 (hw _ (List.mem_of_getElem? (i := 42) rfl)) e109 c112 d3_34 rfl ?_
  refine Go.icmpYes (pc' := 59) C X109 d3_37 (flt (x := (0 : Int32)) (y := (0 : Int32)) (by decide)).2.1 (by decide) (by decide) ?_
  refine Go.aloadN (pc' := 60) C X109 d3_59 rfl rfl rfl ?_
  refine Go.iloadN (pc' := 61) C X109 d3_60 rfl rfl ?_
  have O115 : Ext Z.heap h109 := (Ext.trans O110 E109)
  refine Go.newRA (ty := .int) (cap := 1) (vs := [.null]) (ad := "[[I") (pc' := 64) C X109 (by decide) (by decide) (hw _ (List.mem_of_getElem? (i := 44) rfl)) (hw _ (List.mem_of_getElem? (i := 45) rfl)) e109 (by decide) (by decide) (by decide) (by decide) (by decide) rfl d3_61 rfl ?_
  intro T114 h114 b114 k114 X114 e114 g114 E114 A114 Ea114 O114v
  have n_b114 : Z.heap.size ≤ b114 := Nat.le_trans O115.1 (Nat.le_of_eq g114.symm)
  have z_b114 : h0.size ≤ b114 := Nat.le_trans (Nat.le_trans (Nat.le_trans (Nat.le_trans (Nat.le_refl _) K105.1) (Nat.le_of_eq W106.size.symm)) E109.1) (Nat.le_of_eq g114.symm)
  have A114 : AL Z h114 b114 k114 (.array .int) [.null] := A114
  have c117 : Fld Z h114 r "com/example/opacheck/opacheck/PrecedenceTraversal" "ranges" "[[I" .null := (Fld.ext E114 (Fld.ext E109 (Fld.other W106 (Fld.keep Franges K105 nin0) (Or.inr (slot_ne (Or.inr (hw _ (List.mem_of_getElem? (i := 47) rfl))) (Or.inr (hw _ (List.mem_of_getElem? (i := 41) rfl))) (by decide) (t := (.array (.array .int))) (t' := (.array .int)) (by decide) (by decide))))))
  have c118 : Exa Z h114 r "com/example/opacheck/opacheck/PrecedenceTraversal" := (Exa.ext E114 (Exa.ext E109 (Exa.wr W106 c108)))
  refine Go.putF (pc' := 67) (host := "") (ty := (.array (.array .int))) C X114 (Or.inl (hw _ (List.mem_of_getElem? (i := 46) rfl))) Via.refl e114 c117 c118 (Or.inr ⟨(hw _ (List.mem_of_getElem? (i := 47) rfl)), rfl, rfl⟩) (hw _ (List.mem_of_getElem? (i := 18) rfl)) (by decide) rfl rfl d3_64 rfl ?_
  intro T116 h116 X116 e116 W116 F116
  have N116 := Fr.snoc X116 N106 hn
  refine Go.iconst (z := (0 : Int32)) (pc' := 68) C X116 d3_67 rfl rfl ?_
  refine Go.istore (Ls' := #[.val (.ref r), .val (.ref q), .val (.int (1 : Int32)), .val (.ref b109), .val (.int (0 : Int32)), .unset, .unset]) (pc' := 70) C X116 d3_68 rfl rfl ?_
  refine Go.iload (pc' := 72) C X116 d3_70 rfl rfl ?_
  refine Go.iloadN (pc' := 73) C X116 d3_72 rfl rfl ?_
  refine Go.icmpNo (pc' := 76) C X116 d3_73 (tlt (x := (0 : Int32)) (y := (1 : Int32)) (by decide)).2.1 rfl ?_
  refine Go.aloadN (pc' := 77) C X116 d3_76 rfl rfl rfl ?_
  refine Go.getF (pc' := 80) (host := "") C X116 (Or.inl (hw _ (List.mem_of_getElem? (i := 46) rfl))) Via.refl e116 F116 d3_77 rfl ?_
  intro T120 X120 e120
  refine Go.iload (pc' := 82) C X120 d3_80 rfl rfl ?_
  refine Go.iconst (z := (2 : Int32)) (pc' := 83) C X120 d3_82 rfl rfl ?_
  refine Go.aloadN (pc' := 84) C X120 d3_83 rfl rfl rfl ?_
  refine Go.iload (pc' := 86) C X120 d3_84 rfl rfl ?_
  have ne121 : b109 ≠ r := (Nat.ne_of_gt (Nat.lt_of_lt_of_le E0.lt (Nat.le_trans (Nat.le_trans (Nat.le_trans (Nat.le_refl _) K105.1) (Nat.le_of_eq W106.size.symm)) (Nat.le_of_eq g109.symm))))
  have c122 : AL Z h116 b109 k109 .int [(.int (0 : Int32))] := (AL.other W116 (AL.ext E114 A109) ne121)
  refine Go.ldI (i := 0) (v := (.int (0 : Int32))) (pc' := 87) C X120 e120 c122 (by decide) (by decide) rfl d3_86 rfl ?_
  refine Go.imul (pc' := 88) C X120 d3_87 rfl ?_
  rw [show ((2 : Int32) * (0 : Int32)) = (0 : Int32) from by decide]
  have O124 : Ext Z.heap h116 := (Ext.wr (Ext.trans O115 E114) W116 hn)
  refine Go.newP (aty := .int) (cap := 0) (vs := []) (ad := "[I") (pc' := 90) C X120 (by decide) (hw _ (List.mem_of_getElem? (i := 10) rfl)) e120 (by decide) (by decide) (by decide) (by decide) (by decide) rfl d3_88 rfl ?_
  intro T123 h123 b123 k123 X123 e123 g123 E123 A123 Ea123
  have n_b123 : Z.heap.size ≤ b123 := Nat.le_trans O124.1 (Nat.le_of_eq g123.symm)
  have z_b123 : h0.size ≤ b123 := Nat.le_trans (Nat.le_trans (Nat.le_trans (Nat.le_trans (Nat.le_trans (Nat.le_trans (Nat.le_refl _) K105.1) (Nat.le_of_eq W106.size.symm)) E109.1) E114.1) (Nat.le_of_eq W116.size.symm)) (Nat.le_of_eq g123.symm)
  have A123 : AL Z h123 b123 k123 .int [] := A123
  have ne125 : b114 ≠ r := (Nat.ne_of_gt (Nat.lt_of_lt_of_le E0.lt (Nat.le_trans (Nat.le_trans (Nat.le_trans (Nat.le_trans (Nat.le_refl _) K105.1) (Nat.le_of_eq W106.size.symm)) E109.1) (Nat.le_of_eq g114.symm))))
  have c126 : AL Z h123 b114 k114 (.array .int) [.null] := (AL.ext E123 (AL.other W116 A114 ne125))
  refine Go.stR (i := 0) (vs' := [(.ref b123)]) (pc' := 91) C X123 e123 c126 (by decide) (by decide) (by simp) rfl (AL.stoA c126 O114v (Ins.self Ea123)) rfl d3_90 rfl ?_
  intro T127 h127 X127 e127 W127 A127
  have N127 := Fr.snoc X127 N116 n_b114
  refine Go.iinc (Ls' := #[.val (.ref r), .val (.ref q), .val (.int (1 : Int32)), .val (.ref b109), .val (.int ((0 : Int32) + (1 : Int32))), .unset, .unset]) (z := (1 : Int32)) (pc' := 94) C X127 d3_91 rfl rfl rfl rfl ?_
  rw [show ((0 : Int32) + (1 : Int32)) = (1 : Int32) from by decide]
  refine Go.goto (pc' := 70) C X127 d3_94 (by decide) (by decide) ?_
  refine Go.iload (pc' := 72) C X127 d3_70 rfl rfl ?_
  refine Go.iloadN (pc' := 73) C X127 d3_72 rfl rfl ?_
  refine Go.icmpYes (pc' := 97) C X127 d3_73 (flt (x := (1 : Int32)) (y := (1 : Int32)) (by decide)).2.1 (by decide) (by decide) ?_
  refine Go.iloadN (pc' := 98) C X127 d3_97 rfl rfl ?_
  have O130 : Ext Z.heap h127 := (Ext.wr (Ext.trans O124 E123) W127 n_b114)
  refine Go.newP (aty := .int) (cap := 1) (vs := [(.int (0 : Int32))]) (ad := "[I") (pc' := 100) C X127 (by decide) (hw _ (List.mem_of_getElem? (i := 10) rfl)) e127 (by decide) (by decide) (by decide) (by decide) (by decide) rfl d3_98 rfl ?_
  intro T129 h129 b129 k129 X129 e129 g129 E129 A129 Ea129
  have n_b129 : Z.heap.size ≤ b129 := Nat.le_trans O130.1 (Nat.le_of_eq g129.symm)
  have z_b129 : h0.size ≤ b129 := Nat.le_trans (Nat.le_trans (Nat.le_trans (Nat.le_trans (Nat.le_trans (Nat.le_trans (Nat.le_trans (Nat.le_trans (Nat.le_refl _) K105.1) (Nat.le_of_eq W106.size.symm)) E109.1) E114.1) (Nat.le_of_eq W116.size.symm)) E123.1) (Nat.le_of_eq W127.size.symm)) (Nat.le_of_eq g129.symm)
  have A129 : AL Z h129 b129 k129 .int [(.int (0 : Int32))] := A129
  refine Go.astore (Ls' := #[.val (.ref r), .val (.ref q), .val (.int (1 : Int32)), .val (.ref b109), .val (.ref b129), .unset, .unset]) (pc' := 102) C X129 d3_100 rfl rfl rfl ?_
  refine Go.iconst (z := (0 : Int32)) (pc' := 103) C X129 d3_102 rfl rfl ?_
  refine Go.istore (Ls' := #[.val (.ref r), .val (.ref q), .val (.int (1 : Int32)), .val (.ref b109), .val (.ref b129), .val (.int (0 : Int32)), .unset]) (pc' := 105) C X129 d3_103 rfl rfl ?_
  refine Go.iload (pc' := 107) C X129 d3_105 rfl rfl ?_
  refine Go.aloadN (pc' := 108) C X129 d3_107 rfl rfl rfl ?_
  have ne132 : q ≠ b114 := Nat.ne_of_lt (Nat.lt_of_lt_of_le Gm.lt (Nat.le_trans (Nat.le_trans (Nat.le_trans (Nat.le_trans (Nat.le_refl _) K105.1) (Nat.le_of_eq W106.size.symm)) E109.1) (Nat.le_of_eq g114.symm)))
  have c133 : Fld Z h129 q "com/example/opacheck/opacheck/PrecedenceTraversal$Neighbours" "rangesSize" "I" (.int (0 : Int32)) := (Fld.ext E129 (Fld.other W127 (Fld.ext E123 (Fld.other W116 (Fld.ext E114 c112) (Or.inl (Ne.symm hne)))) (Or.inl ne132)))
  refine Go.getFR (pc' := 111) C X129 (hw _ (List.mem_of_getElem? (i := 42) rfl)) e129 c133 d3_108 rfl ?_
  refine Go.icmpYes (pc' := 183) C X129 d3_111 (flt (x := (0 : Int32)) (y := (0 : Int32)) (by decide)).2.1 (by decide) (by decide) ?_
  refine Go.aloadN (pc' := 184) C X129 d3_183 rfl rfl rfl ?_
  refine Go.iloadN (pc' := 185) C X129 d3_184 rfl rfl ?_
  have O136 : Ext Z.heap h129 := (Ext.trans O130 E129)
  refine Go.newP (aty := .int) (cap := 1) (vs := [(.int (0 : Int32))]) (ad := "[I") (pc' := 187) C X129 (by decide) (hw _ (List.mem_of_getElem? (i := 10) rfl)) e129 (by decide) (by decide) (by decide) (by decide) (by decide) rfl d3_185 rfl ?_
  intro T135 h135 b135 k135 X135 e135 g135 E135 A135 Ea135
  have n_b135 : Z.heap.size ≤ b135 := Nat.le_trans O136.1 (Nat.le_of_eq g135.symm)
  have z_b135 : h0.size ≤ b135 := Nat.le_trans (Nat.le_trans (Nat.le_trans (Nat.le_trans (Nat.le_trans (Nat.le_trans (Nat.le_trans (Nat.le_trans (Nat.le_trans (Nat.le_refl _) K105.1) (Nat.le_of_eq W106.size.symm)) E109.1) E114.1) (Nat.le_of_eq W116.size.symm)) E123.1) (Nat.le_of_eq W127.size.symm)) E129.1) (Nat.le_of_eq g135.symm)
  have A135 : AL Z h135 b135 k135 .int [(.int (0 : Int32))] := A135
  have c138 : Fld Z h135 r "com/example/opacheck/opacheck/PrecedenceTraversal" "visitedIn" "[I" .null := (Fld.ext E135 (Fld.ext E129 (Fld.other W127 (Fld.ext E123 (Fld.other W116 (Fld.ext E114 (Fld.ext E109 (Fld.other W106 (Fld.keep FvisitedIn K105 nin0) (Or.inr (slot_ne (Or.inr (hw _ (List.mem_of_getElem? (i := 50) rfl))) (Or.inr (hw _ (List.mem_of_getElem? (i := 41) rfl))) (by decide) (t := (.array .int)) (t' := (.array .int)) (by decide) (by decide)))))) (Or.inr (slot_ne (Or.inr (hw _ (List.mem_of_getElem? (i := 50) rfl))) (Or.inr (hw _ (List.mem_of_getElem? (i := 47) rfl))) (by decide) (t := (.array .int)) (t' := (.array (.array .int))) (by decide) (by decide))))) (Or.inl (Ne.symm ne125)))))
  have c139 : Exa Z h135 r "com/example/opacheck/opacheck/PrecedenceTraversal" := (Exa.ext E135 (Exa.ext E129 (Exa.wr W127 (Exa.ext E123 (Exa.wr W116 c118)))))
  refine Go.putF (pc' := 190) (host := "") (ty := (.array .int)) C X135 (Or.inl (hw _ (List.mem_of_getElem? (i := 49) rfl))) Via.refl e135 c138 c139 (Or.inr ⟨(hw _ (List.mem_of_getElem? (i := 50) rfl)), rfl, rfl⟩) (hw _ (List.mem_of_getElem? (i := 18) rfl)) (by decide) rfl rfl d3_187 rfl ?_
  intro T137 h137 X137 e137 W137 F137
  have N137 := Fr.snoc X137 N127 hn
  refine Go.aloadN (pc' := 191) C X137 d3_190 rfl rfl rfl ?_
  refine Go.iloadN (pc' := 192) C X137 d3_191 rfl rfl ?_
  have O141 : Ext Z.heap h137 := (Ext.wr (Ext.trans O136 E135) W137 hn)
  refine Go.newP (aty := .int) (cap := 1) (vs := [(.int (0 : Int32))]) (ad := "[I") (pc' := 194) C X137 (by decide) (hw _ (List.mem_of_getElem? (i := 10) rfl)) e137 (by decide) (by decide) (by decide) (by decide) (by decide) rfl d3_192 rfl ?_
  intro T140 h140 b140 k140 X140 e140 g140 E140 A140 Ea140
  have n_b140 : Z.heap.size ≤ b140 := Nat.le_trans O141.1 (Nat.le_of_eq g140.symm)
  have z_b140 : h0.size ≤ b140 := Nat.le_trans (Nat.le_trans (Nat.le_trans (Nat.le_trans (Nat.le_trans (Nat.le_trans (Nat.le_trans (Nat.le_trans (Nat.le_trans (Nat.le_trans (Nat.le_trans (Nat.le_refl _) K105.1) (Nat.le_of_eq W106.size.symm)) E109.1) E114.1) (Nat.le_of_eq W116.size.symm)) E123.1) (Nat.le_of_eq W127.size.symm)) E129.1) E135.1) (Nat.le_of_eq W137.size.symm)) (Nat.le_of_eq g140.symm)
  have A140 : AL Z h140 b140 k140 .int [(.int (0 : Int32))] := A140
  have c143 : Fld Z h140 r "com/example/opacheck/opacheck/PrecedenceTraversal" "positions" "[I" .null := (Fld.ext E140 (Fld.other W137 (Fld.ext E135 (Fld.ext E129 (Fld.other W127 (Fld.ext E123 (Fld.other W116 (Fld.ext E114 (Fld.ext E109 (Fld.other W106 (Fld.keep Fpositions K105 nin0) (Or.inr (slot_ne (Or.inr (hw _ (List.mem_of_getElem? (i := 52) rfl))) (Or.inr (hw _ (List.mem_of_getElem? (i := 41) rfl))) (by decide) (t := (.array .int)) (t' := (.array .int)) (by decide) (by decide)))))) (Or.inr (slot_ne (Or.inr (hw _ (List.mem_of_getElem? (i := 52) rfl))) (Or.inr (hw _ (List.mem_of_getElem? (i := 47) rfl))) (by decide) (t := (.array .int)) (t' := (.array (.array .int))) (by decide) (by decide))))) (Or.inl (Ne.symm ne125))))) (Or.inr (slot_ne (Or.inr (hw _ (List.mem_of_getElem? (i := 52) rfl))) (Or.inr (hw _ (List.mem_of_getElem? (i := 50) rfl))) (by decide) (t := (.array .int)) (t' := (.array .int)) (by decide) (by decide)))))
  have c144 : Exa Z h140 r "com/example/opacheck/opacheck/PrecedenceTraversal" := (Exa.ext E140 (Exa.wr W137 c139))
  refine Go.putF (pc' := 197) (host := "") (ty := (.array .int)) C X140 (Or.inl (hw _ (List.mem_of_getElem? (i := 51) rfl))) Via.refl e140 c143 c144 (Or.inr ⟨(hw _ (List.mem_of_getElem? (i := 52) rfl)), rfl, rfl⟩) (hw _ (List.mem_of_getElem? (i := 18) rfl)) (by decide) rfl rfl d3_194 rfl ?_
  intro T142 h142 X142 e142 W142 F142
  have N142 := Fr.snoc X142 N137 hn
  refine Go.aloadN (pc' := 198) C X142 d3_197 rfl rfl rfl ?_
  refine Go.aloadN (pc' := 199) C X142 d3_198 rfl rfl rfl ?_
  have c146 : Fld Z h142 r "com/example/opacheck/opacheck/PrecedenceTraversal" "members" "[I" (.ref b_105) := (Fld.other W142 (Fld.ext E140 (Fld.other W137 (Fld.ext E135 (Fld.ext E129 (Fld.other W127 (Fld.ext E123 (Fld.other W116 (Fld.ext E114 (Fld.ext E109 F106)) (Or.inr (slot_ne (Or.inr (hw _ (List.mem_of_getElem? (i := 41) rfl))) (Or.inr (hw _ (List.mem_of_getElem? (i := 47) rfl))) (by decide) (t := (.array .int)) (t' := (.array (.array .int))) (by decide) (by decide))))) (Or.inl (Ne.symm ne125))))) (Or.inr (slot_ne (Or.inr (hw _ (List.mem_of_getElem? (i := 41) rfl))) (Or.inr (hw _ (List.mem_of_getElem? (i := 50) rfl))) (by decide) (t := (.array .int)) (t' := (.array .int)) (by decide) (by decide))))) (Or.inr (slot_ne (Or.inr (hw _ (List.mem_of_getElem? (i := 41) rfl))) (Or.inr (hw _ (List.mem_of_getElem? (i := 52) rfl))) (by decide) (t := (.array .int)) (t' := (.array .int)) (by decide) (by decide))))
  refine Go.getF (pc' := 202) (host := "") C X142 (Or.inl (hw _ (List.mem_of_getElem? (i := 40) rfl))) Via.refl e142 c146 d3_199 rfl ?_
  intro T145 X145 e145
  have ne147 : b_105 ≠ r := (Nat.ne_of_gt (Nat.lt_of_lt_of_le E0.lt (Nat.le_trans (Nat.le_refl _) B105_0)))
  have ne148 : b_105 ≠ b114 := Nat.ne_of_lt (Nat.lt_of_lt_of_le P105_0.lt (Nat.le_trans (Nat.le_trans (Nat.le_trans (Nat.le_refl _) (Nat.le_of_eq W106.size.symm)) E109.1) (Nat.le_of_eq g114.symm)))
  have c149 : AL Z h142 b_105 kb_105 .int [] := (AL.other W142 (AL.ext E140 (AL.other W137 (AL.ext E135 (AL.ext E129 (AL.other W127 (AL.ext E123 (AL.other W116 (AL.ext E114 (AL.ext E109 (AL.other W106 P105_0 ne147))) ne147)) ne148))) ne147)) ne147)
  refine Go.alen (z := (0 : Int32)) (pc' := 203) C X145 e145 c149 rfl d3_202 rfl ?_
  refine Go.iconst (z := (1 : Int32)) (pc' := 204) C X145 d3_203 rfl rfl ?_
  refine Go.iadd (pc' := 205) C X145 d3_204 rfl ?_
  rw [show ((0 : Int32) + (1 : Int32)) = (1 : Int32) from by decide]
  have O151 : Ext Z.heap h142 := (Ext.wr (Ext.trans O141 E140) W142 hn)
  refine Go.newP (aty := .int) (cap := 1) (vs := [(.int (0 : Int32))]) (ad := "[I") (pc' := 207) C X145 (by decide) (hw _ (List.mem_of_getElem? (i := 10) rfl)) e145 (by decide) (by decide) (by decide) (by decide) (by decide) rfl d3_205 rfl ?_
  intro T150 h150 b150 k150 X150 e150 g150 E150 A150 Ea150
  have n_b150 : Z.heap.size ≤ b150 := Nat.le_trans O151.1 (Nat.le_of_eq g150.symm)
  have z_b150 : h0.size ≤ b150 := Nat.le_trans (Nat.le_trans (Nat.le_trans (Nat.le_trans (Nat.le_trans (Nat.le_trans (Nat.le_trans (Nat.le_trans (Nat.le_trans (Nat.le_trans (Nat.le_trans (Nat.le_trans (Nat.le_trans (Nat.le_refl _) K105.1) (Nat.le_of_eq W106.size.symm)) E109.1) E114.1) (Nat.le_of_eq W116.size.symm)) E123.1) (Nat.le_of_eq W127.size.symm)) E129.1) E135.1) (Nat.le_of_eq W137.size.symm)) E140.1) (Nat.le_of_eq W142.size.symm)) (Nat.le_of_eq g150.symm)
  have A150 : AL Z h150 b150 k150 .int [(.int (0 : Int32))] := A150
  have c153 : Fld Z h150 r "com/example/opacheck/opacheck/PrecedenceTraversal" "links" "[I" .null := (Fld.ext E150 (Fld.other W142 (Fld.ext E140 (Fld.other W137 (Fld.ext E135 (Fld.ext E129 (Fld.other W127 (Fld.ext E123 (Fld.other W116 (Fld.ext E114 (Fld.ext E109 (Fld.other W106 (Fld.keep Flinks K105 nin0) (Or.inr (slot_ne (Or.inr (hw _ (List.mem_of_getElem? (i := 54) rfl))) (Or.inr (hw _ (List.mem_of_getElem? (i := 41) rfl))) (by decide) (t := (.array .int)) (t' := (.array .int)) (by decide) (by decide)))))) (Or.inr (slot_ne (Or.inr (hw _ (List.mem_of_getElem? (i := 54) rfl))) (Or.inr (hw _ (List.mem_of_getElem? (i := 47) rfl))) (by decide) (t := (.array .int)) (t' := (.array (.array .int))) (by decide) (by decide))))) (Or.inl (Ne.symm ne125))))) (Or.inr (slot_ne (Or.inr (hw _ (List.mem_of_getElem? (i := 54) rfl))) (Or.inr (hw _ (List.mem_of_getElem? (i := 50) rfl))) (by decide) (t := (.array .int)) (t' := (.array .int)) (by decide) (by decide))))) (Or.inr (slot_ne (Or.inr (hw _ (List.mem_of_getElem? (i := 54) rfl))) (Or.inr (hw _ (List.mem_of_getElem? (i := 52) rfl))) (by decide) (t := (.array .int)) (t' := (.array .int)) (by decide) (by decide)))))
  have c154 : Exa Z h150 r "com/example/opacheck/opacheck/PrecedenceTraversal" := (Exa.ext E150 (Exa.wr W142 c144))
  refine Go.putF (pc' := 210) (host := "") (ty := (.array .int)) C X150 (Or.inl (hw _ (List.mem_of_getElem? (i := 53) rfl))) Via.refl e150 c153 c154 (Or.inr ⟨(hw _ (List.mem_of_getElem? (i := 54) rfl)), rfl, rfl⟩) (hw _ (List.mem_of_getElem? (i := 18) rfl)) (by decide) rfl rfl d3_207 rfl ?_
  intro T152 h152 X152 e152 W152 F152
  have N152 := Fr.snoc X152 N142 hn
  refine Go.aloadN (pc' := 211) C X152 d3_210 rfl rfl rfl ?_
  refine Go.aloadN (pc' := 212) C X152 d3_211 rfl rfl rfl ?_
  have c156 : Fld Z h152 r "com/example/opacheck/opacheck/PrecedenceTraversal" "members" "[I" (.ref b_105) := (Fld.other W152 (Fld.ext E150 c146) (Or.inr (slot_ne (Or.inr (hw _ (List.mem_of_getElem? (i := 41) rfl))) (Or.inr (hw _ (List.mem_of_getElem? (i := 54) rfl))) (by decide) (t := (.array .int)) (t' := (.array .int)) (by decide) (by decide))))
  refine Go.getF (pc' := 215) (host := "") C X152 (Or.inl (hw _ (List.mem_of_getElem? (i := 40) rfl))) Via.refl e152 c156 d3_212 rfl ?_
  intro T155 X155 e155
  have c157 : AL Z h152 b_105 kb_105 .int [] := (AL.other W152 (AL.ext E150 c149) ne147)
  refine Go.alen (z := (0 : Int32)) (pc' := 216) C X155 e155 c157 rfl d3_215 rfl ?_
  refine Go.iconst (z := (1 : Int32)) (pc' := 217) C X155 d3_216 rfl rfl ?_
  refine Go.iadd (pc' := 218) C X155 d3_217 rfl ?_
  rw [show ((0 : Int32) + (1 : Int32)) = (1 : Int32) from by decide]
  have O159 : Ext Z.heap h152 := (Ext.wr (Ext.trans O151 E150) W152 hn)
  refine Go.newP (aty := .int) (cap := 1) (vs := [(.int (0 : Int32))]) (ad := "[I") (pc' := 220) C X155 (by decide) (hw _ (List.mem_of_getElem? (i := 10) rfl)) e155 (by decide) (by decide) (by decide) (by decide) (by decide) rfl d3_218 rfl ?_
  intro T158 h158 b158 k158 X158 e158 g158 E158 A158 Ea158
  have n_b158 : Z.heap.size ≤ b158 := Nat.le_trans O159.1 (Nat.le_of_eq g158.symm)
  have z_b158 : h0.size ≤ b158 := Nat.le_trans (Nat.le_trans (Nat.le_trans (Nat.le_trans (Nat.le_trans (Nat.le_trans (Nat.le_trans (Nat.le_trans (Nat.le_trans (Nat.le_trans (Nat.le_trans (Nat.le_trans (Nat.le_trans (Nat.le_trans (Nat.le_trans (Nat.le_refl _) K105.1) (Nat.le_of_eq W106.size.symm)) E109.1) E114.1) (Nat.le_of_eq W116.size.symm)) E123.1) (Nat.le_of_eq W127.size.symm)) E129.1) E135.1) (Nat.le_of_eq W137.size.symm)) E140.1) (Nat.le_of_eq W142.size.symm)) E150.1) (Nat.le_of_eq W152.size.symm)) (Nat.le_of_eq g158.symm)
  have A158 : AL Z h158 b158 k158 .int [(.int (0 : Int32))] := A158
  have c161 : Fld Z h158 r "com/example/opacheck/opacheck/PrecedenceTraversal" "linkedIn" "[I" .null := (Fld.ext E158 (Fld.other W152 (Fld.ext E150 (Fld.other W142 (Fld.ext E140 (Fld.other W137 (Fld.ext E135 (Fld.ext E129 (Fld.other W127 (Fld.ext E123 (Fld.other W116 (Fld.ext E114 (Fld.ext E109 (Fld.other W106 (Fld.keep FlinkedIn K105 nin0) (Or.inr (slot_ne (Or.inr (hw _ (List.mem_of_getElem? (i := 56) rfl))) (Or.inr (hw _ (List.mem_of_getElem? (i := 41) rfl))) (by decide) (t := (.array .int)) (t' := (.array .int)) (by decide) (by decide)))))) (Or.inr (slot_ne (Or.inr (hw _ (List.mem_of_getElem? (i := 56) rfl))) (Or.inr (hw _ (List.mem_of_getElem? (i := 47) rfl))) (by decide) (t := (.array .int)) (t' := (.array (.array .int))) (by decide) (by decide))))) (Or.inl (Ne.symm ne125))))) (Or.inr (slot_ne (Or.inr (hw _ (List.mem_of_getElem? (i := 56) rfl))) (Or.inr (hw _ (List.mem_of_getElem? (i := 50) rfl))) (by decide) (t := (.array .int)) (t' := (.array .int)) (by decide) (by decide))))) (Or.inr (slot_ne (Or.inr (hw _ (List.mem_of_getElem? (i := 56) rfl))) (Or.inr (hw _ (List.mem_of_getElem? (i := 52) rfl))) (by decide) (t := (.array .int)) (t' := (.array .int)) (by decide) (by decide))))) (Or.inr (slot_ne (Or.inr (hw _ (List.mem_of_getElem? (i := 56) rfl))) (Or.inr (hw _ (List.mem_of_getElem? (i := 54) rfl))) (by decide) (t := (.array .int)) (t' := (.array .int)) (by decide) (by decide)))))
  have c162 : Exa Z h158 r "com/example/opacheck/opacheck/PrecedenceTraversal" := (Exa.ext E158 (Exa.wr W152 c154))
  refine Go.putF (pc' := 223) (host := "") (ty := (.array .int)) C X158 (Or.inl (hw _ (List.mem_of_getElem? (i := 55) rfl))) Via.refl e158 c161 c162 (Or.inr ⟨(hw _ (List.mem_of_getElem? (i := 56) rfl)), rfl, rfl⟩) (hw _ (List.mem_of_getElem? (i := 18) rfl)) (by decide) rfl rfl d3_220 rfl ?_
  intro T160 h160 X160 e160 W160 F160
  have N160 := Fr.snoc X160 N152 hn
  refine Go.aloadN (pc' := 224) C X160 d3_223 rfl rfl rfl ?_
  refine Go.iloadN (pc' := 225) C X160 d3_224 rfl rfl ?_
  have O164 : Ext Z.heap h160 := (Ext.wr (Ext.trans O159 E158) W160 hn)
  refine Go.newP (aty := .int) (cap := 1) (vs := [(.int (0 : Int32))]) (ad := "[I") (pc' := 227) C X160 (by decide) (hw _ (List.mem_of_getElem? (i := 10) rfl)) e160 (by decide) (by decide) (by decide) (by decide) (by decide) rfl d3_225 rfl ?_
  intro T163 h163 b163 k163 X163 e163 g163 E163 A163 Ea163
  have n_b163 : Z.heap.size ≤ b163 := Nat.le_trans O164.1 (Nat.le_of_eq g163.symm)
  have z_b163 : h0.size ≤ b163 := Nat.le_trans (Nat.le_trans (Nat.le_trans (Nat.le_trans (Nat.le_trans (Nat.le_trans (Nat.le_trans (Nat.le_trans (Nat.le_trans (Nat.le_trans (Nat.le_trans (Nat.le_trans (Nat.le_trans (Nat.le_trans (Nat.le_trans (Nat.le_trans (Nat.le_trans (Nat.le_refl _) K105.1) (Nat.le_of_eq W106.size.symm)) E109.1) E114.1) (Nat.le_of_eq W116.size.symm)) E123.1) (Nat.le_of_eq W127.size.symm)) E129.1) E135.1) (Nat.le_of_eq W137.size.symm)) E140.1) (Nat.le_of_eq W142.size.symm)) E150.1) (Nat.le_of_eq W152.size.symm)) E158.1) (Nat.le_of_eq W160.size.symm)) (Nat.le_of_eq g163.symm)
  have A163 : AL Z h163 b163 k163 .int [(.int (0 : Int32))] := A163
  have c166 : Fld Z h163 r "com/example/opacheck/opacheck/PrecedenceTraversal" "path" "[I" .null := (Fld.ext E163 (Fld.other W160 (Fld.ext E158 (Fld.other W152 (Fld.ext E150 (Fld.other W142 (Fld.ext E140 (Fld.other W137 (Fld.ext E135 (Fld.ext E129 (Fld.other W127 (Fld.ext E123 (Fld.other W116 (Fld.ext E114 (Fld.ext E109 (Fld.other W106 (Fld.keep Fpath K105 nin0) (Or.inr (slot_ne (Or.inr (hw _ (List.mem_of_getElem? (i := 58) rfl))) (Or.inr (hw _ (List.mem_of_getElem? (i := 41) rfl))) (by decide) (t := (.array .int)) (t' := (.array .int)) (by decide) (by decide)))))) (Or.inr (slot_ne (Or.inr (hw _ (List.mem_of_getElem? (i := 58) rfl))) (Or.inr (hw _ (List.mem_of_getElem? (i := 47) rfl))) (by decide) (t := (.array .int)) (t' := (.array (.array .int))) (by decide) (by decide))))) (Or.inl (Ne.symm ne125))))) (Or.inr (slot_ne (Or.inr (hw _ (List.mem_of_getElem? (i := 58) rfl))) (Or.inr (hw _ (List.mem_of_getElem? (i := 50) rfl))) (by decide) (t := (.array .int)) (t' := (.array .int)) (by decide) (by decide))))) (Or.inr (slot_ne (Or.inr (hw _ (List.mem_of_getElem? (i := 58) rfl))) (Or.inr (hw _ (List.mem_of_getElem? (i := 52) rfl))) (by decide) (t := (.array .int)) (t' := (.array .int)) (by decide) (by decide))))) (Or.inr (slot_ne (Or.inr (hw _ (List.mem_of_getElem? (i := 58) rfl))) (Or.inr (hw _ (List.mem_of_getElem? (i := 54) rfl))) (by decide) (t := (.array .int)) (t' := (.array .int)) (by decide) (by decide))))) (Or.inr (slot_ne (Or.inr (hw _ (List.mem_of_getElem? (i := 58) rfl))) (Or.inr (hw _ (List.mem_of_getElem? (i := 56) rfl))) (by decide) (t := (.array .int)) (t' := (.array .int)) (by decide) (by decide)))))
  have c167 : Exa Z h163 r "com/example/opacheck/opacheck/PrecedenceTraversal" := (Exa.ext E163 (Exa.wr W160 c162))
  refine Go.putF (pc' := 230) (host := "") (ty := (.array .int)) C X163 (Or.inl (hw _ (List.mem_of_getElem? (i := 57) rfl))) Via.refl e163 c166 c167 (Or.inr ⟨(hw _ (List.mem_of_getElem? (i := 58) rfl)), rfl, rfl⟩) (hw _ (List.mem_of_getElem? (i := 18) rfl)) (by decide) rfl rfl d3_227 rfl ?_
  intro T165 h165 X165 e165 W165 F165
  have N165 := Fr.snoc X165 N160 hn
  have K168 : Keep h0 h165 [r] := (((((((((((((((((((Keep.refl h0 [r]).trans K105 all0).wr W106 (Or.inl (by simp))).ext E109).ext E114).wr W116 (Or.inl (by simp))).ext E123).wr W127 (Or.inr z_b114)).ext E129).ext E135).wr W137 (Or.inl (by simp))).ext E140).wr W142 (Or.inl (by simp))).ext E150).wr W152 (Or.inl (by simp))).ext E158).wr W160 (Or.inl (by simp))).ext E163).wr W165 (Or.inl (by simp)))
  have c169 : Fld Z h165 r "com/example/opacheck/opacheck/PrecedenceTraversal" "visitedIn" "[I" (.ref b135) := (Fld.other W165 (Fld.ext E163 (Fld.other W160 (Fld.ext E158 (Fld.other W152 (Fld.ext E150 (Fld.other W142 (Fld.ext E140 F137) (Or.inr (slot_ne (Or.inr (hw _ (List.mem_of_getElem? (i := 50) rfl))) (Or.inr (hw _ (List.mem_of_getElem? (i := 52) rfl))) (by decide) (t := (.array .int)) (t' := (.array .int)) (by decide) (by decide))))) (Or.inr (slot_ne (Or.inr (hw _ (List.mem_of_getElem? (i := 50) rfl))) (Or.inr (hw _ (List.mem_of_getElem? (i := 54) rfl))) (by decide) (t := (.array .int)) (t' := (.array .int)) (by decide) (by decide))))) (Or.inr (slot_ne (Or.inr (hw _ (List.mem_of_getElem? (i := 50) rfl))) (Or.inr (hw _ (List.mem_of_getElem? (i := 56) rfl))) (by decide) (t := (.array .int)) (t' := (.array .int)) (by decide) (by decide))))) (Or.inr (slot_ne (Or.inr (hw _ (List.mem_of_getElem? (i := 50) rfl))) (Or.inr (hw _ (List.mem_of_getElem? (i := 58) rfl))) (by decide) (t := (.array .int)) (t' := (.array .int)) (by decide) (by decide))))
  have ne170 : b135 ≠ r := (Nat.ne_of_gt (Nat.lt_of_lt_of_le E0.lt (Nat.le_trans (Nat.le_trans (Nat.le_trans (Nat.le_trans (Nat.le_trans (Nat.le_trans (Nat.le_trans (Nat.le_trans (Nat.le_trans (Nat.le_refl _) K105.1) (Nat.le_of_eq W106.size.symm)) E109.1) E114.1) (Nat.le_of_eq W116.size.symm)) E123.1) (Nat.le_of_eq W127.size.symm)) E129.1) (Nat.le_of_eq g135.symm))))
  have c171 : AL Z h165 b135 k135 .int [(.int (0 : Int32))] := (AL.other W165 (AL.ext E163 (AL.other W160 (AL.ext E158 (AL.other W152 (AL.ext E150 (AL.other W142 (AL.ext E140 (AL.other W137 A135 ne170)) ne170)) ne170)) ne170)) ne170)
  have c172 : Fld Z h165 r "com/example/opacheck/opacheck/PrecedenceTraversal" "positions" "[I" (.ref b140) := (Fld.other W165 (Fld.ext E163 (Fld.other W160 (Fld.ext E158 (Fld.other W152 (Fld.ext E150 F142) (Or.inr (slot_ne (Or.inr (hw _ (List.mem_of_getElem? (i := 52) rfl))) (Or.inr (hw _ (List.mem_of_getElem? (i := 54) rfl))) (by decide) (t := (.array .int)) (t' := (.array .int)) (by decide) (by decide))))) (Or.inr (slot_ne (Or.inr (hw _ (List.mem_of_getElem? (i := 52) rfl))) (Or.inr (hw _ (List.mem_of_getElem? (i := 56) rfl))) (by decide) (t := (.array .int)) (t' := (.array .int)) (by decide) (by decide))))) (Or.inr (slot_ne (Or.inr (hw _ (List.mem_of_getElem? (i := 52) rfl))) (Or.inr (hw _ (List.mem_of_getElem? (i := 58) rfl))) (by decide) (t := (.array .int)) (t' := (.array .int)) (by decide) (by decide))))
  have ne173 : b140 ≠ r := (Nat.ne_of_gt (Nat.lt_of_lt_of_le E0.lt (Nat.le_trans (Nat.le_trans (Nat.le_trans (Nat.le_trans (Nat.le_trans (Nat.le_trans (Nat.le_trans (Nat.le_trans (Nat.le_trans (Nat.le_trans (Nat.le_trans (Nat.le_refl _) K105.1) (Nat.le_of_eq W106.size.symm)) E109.1) E114.1) (Nat.le_of_eq W116.size.symm)) E123.1) (Nat.le_of_eq W127.size.symm)) E129.1) E135.1) (Nat.le_of_eq W137.size.symm)) (Nat.le_of_eq g140.symm))))
  have c174 : AL Z h165 b140 k140 .int [(.int (0 : Int32))] := (AL.other W165 (AL.ext E163 (AL.other W160 (AL.ext E158 (AL.other W152 (AL.ext E150 (AL.other W142 A140 ne173)) ne173)) ne173)) ne173)
  have c175 : Fld Z h165 r "com/example/opacheck/opacheck/PrecedenceTraversal" "number" "I" (.int (0 : Int32)) := (Fld.other W165 (Fld.ext E163 (Fld.other W160 (Fld.ext E158 (Fld.other W152 (Fld.ext E150 (Fld.other W142 (Fld.ext E140 (Fld.other W137 (Fld.ext E135 (Fld.ext E129 (Fld.other W127 (Fld.ext E123 (Fld.other W116 (Fld.ext E114 (Fld.ext E109 (Fld.other W106 (Fld.keep Fnum K105 nin0) (Or.inr (slot_ne (Or.inl (hw _ (List.mem_of_getElem? (i := 65) rfl))) (Or.inr (hw _ (List.mem_of_getElem? (i := 41) rfl))) (by decide) (t := .int) (t' := (.array .int)) (by decide) (by decide)))))) (Or.inr (slot_ne (Or.inl (hw _ (List.mem_of_getElem? (i := 65) rfl))) (Or.inr (hw _ (List.mem_of_getElem? (i := 47) rfl))) (by decide) (t := .int) (t' := (.array (.array .int))) (by decide) (by decide))))) (Or.inl (Ne.symm ne125))))) (Or.inr (slot_ne (Or.inl (hw _ (List.mem_of_getElem? (i := 65) rfl))) (Or.inr (hw _ (List.mem_of_getElem? (i := 50) rfl))) (by decide) (t := .int) (t' := (.array .int)) (by decide) (by decide))))) (Or.inr (slot_ne (Or.inl (hw _ (List.mem_of_getElem? (i := 65) rfl))) (Or.inr (hw _ (List.mem_of_getElem? (i := 52) rfl))) (by decide) (t := .int) (t' := (.array .int)) (by decide) (by decide))))) (Or.inr (slot_ne (Or.inl (hw _ (List.mem_of_getElem? (i := 65) rfl))) (Or.inr (hw _ (List.mem_of_getElem? (i := 54) rfl))) (by decide) (t := .int) (t' := (.array .int)) (by decide) (by decide))))) (Or.inr (slot_ne (Or.inl (hw _ (List.mem_of_getElem? (i := 65) rfl))) (Or.inr (hw _ (List.mem_of_getElem? (i := 56) rfl))) (by decide) (t := .int) (t' := (.array .int)) (by decide) (by decide))))) (Or.inr (slot_ne (Or.inl (hw _ (List.mem_of_getElem? (i := 65) rfl))) (Or.inr (hw _ (List.mem_of_getElem? (i := 58) rfl))) (by decide) (t := .int) (t' := (.array .int)) (by decide) (by decide))))
  have c176 : Fld Z h165 r "com/example/opacheck/opacheck/PrecedenceTraversal" "scope" "Ljava/util/function/IntPredicate;" .null := (Fld.other W165 (Fld.ext E163 (Fld.other W160 (Fld.ext E158 (Fld.other W152 (Fld.ext E150 (Fld.other W142 (Fld.ext E140 (Fld.other W137 (Fld.ext E135 (Fld.ext E129 (Fld.other W127 (Fld.ext E123 (Fld.other W116 (Fld.ext E114 (Fld.ext E109 (Fld.other W106 (Fld.keep Fsc K105 nin0) (Or.inr (slot_ne (Or.inl (hw _ (List.mem_of_getElem? (i := 67) rfl))) (Or.inr (hw _ (List.mem_of_getElem? (i := 41) rfl))) (by decide) (t := (.object "java/util/function/IntPredicate")) (t' := (.array .int)) (by decide) (by decide)))))) (Or.inr (slot_ne (Or.inl (hw _ (List.mem_of_getElem? (i := 67) rfl))) (Or.inr (hw _ (List.mem_of_getElem? (i := 47) rfl))) (by decide) (t := (.object "java/util/function/IntPredicate")) (t' := (.array (.array .int))) (by decide) (by decide))))) (Or.inl (Ne.symm ne125))))) (Or.inr (slot_ne (Or.inl (hw _ (List.mem_of_getElem? (i := 67) rfl))) (Or.inr (hw _ (List.mem_of_getElem? (i := 50) rfl))) (by decide) (t := (.object "java/util/function/IntPredicate")) (t' := (.array .int)) (by decide) (by decide))))) (Or.inr (slot_ne (Or.inl (hw _ (List.mem_of_getElem? (i := 67) rfl))) (Or.inr (hw _ (List.mem_of_getElem? (i := 52) rfl))) (by decide) (t := (.object "java/util/function/IntPredicate")) (t' := (.array .int)) (by decide) (by decide))))) (Or.inr (slot_ne (Or.inl (hw _ (List.mem_of_getElem? (i := 67) rfl))) (Or.inr (hw _ (List.mem_of_getElem? (i := 54) rfl))) (by decide) (t := (.object "java/util/function/IntPredicate")) (t' := (.array .int)) (by decide) (by decide))))) (Or.inr (slot_ne (Or.inl (hw _ (List.mem_of_getElem? (i := 67) rfl))) (Or.inr (hw _ (List.mem_of_getElem? (i := 56) rfl))) (by decide) (t := (.object "java/util/function/IntPredicate")) (t' := (.array .int)) (by decide) (by decide))))) (Or.inr (slot_ne (Or.inl (hw _ (List.mem_of_getElem? (i := 67) rfl))) (Or.inr (hw _ (List.mem_of_getElem? (i := 58) rfl))) (by decide) (t := (.object "java/util/function/IntPredicate")) (t' := (.array .int)) (by decide) (by decide))))
  have ne177 : b135 ≠ b140 := Nat.ne_of_lt (Nat.lt_of_lt_of_le A135.lt (Nat.le_trans (Nat.le_trans (Nat.le_refl _) (Nat.le_of_eq W137.size.symm)) (Nat.le_of_eq g140.symm)))
  exact Go.retV C X165 rfl d3_230 (by rw [e165]; exact ⟨b135, k135, b140, k140, rfl, N165, K168, z_b135, z_b140, c169, c171, c172, c174, c175, c176, ne177⟩) (by decide) (by decide)
def Q_ct2 (Z : State) (r : Addr) (q : Addr) (v : Addr) (k : ClassId) (h0 : Heap) (rv : Option Value) (h : Heap) (L : List Loc) : Prop := ∃ vi : Addr, ∃ ki : ClassId, ∃ vp : Addr, ∃ kp : ClassId, rv = none ∧ Fr Z.heap.size L ∧ Keep h0 h [r] ∧ h0.size ≤ vi ∧ h0.size ≤ vp ∧ Fld Z h r "com/example/opacheck/opacheck/PrecedenceTraversal" "visitedIn" "[I" (.ref vi) ∧ AL Z h vi ki .int [(.int (0 : Int32)), (.int (0 : Int32))] ∧ Fld Z h r "com/example/opacheck/opacheck/PrecedenceTraversal" "positions" "[I" (.ref vp) ∧ AL Z h vp kp .int [(.int (0 : Int32)), (.int (0 : Int32))] ∧ Fld Z h r "com/example/opacheck/opacheck/PrecedenceTraversal" "number" "I" (.int (0 : Int32)) ∧ Fld Z h r "com/example/opacheck/opacheck/PrecedenceTraversal" "scope" "Ljava/util/function/IntPredicate;" .null ∧ vi ≠ vp
set_option maxRecDepth 65536 in
set_option maxHeartbeats 40000000 in
theorem rm_ct2 (l : Launch) (Z : State) (a0 : Array Value) (hw : ∀ d ∈ tables_1, d.before a0 Z = true) (r : Addr) (q : Addr) (v : Addr) (k : ClassId) (h0 : Heap) (O0 : Ext Z.heap h0) (E0 : Exa Z h0 r "com/example/opacheck/opacheck/PrecedenceTraversal") (Fmembers : Fld Z h0 r "com/example/opacheck/opacheck/PrecedenceTraversal" "members" "[I" .null) (Franges : Fld Z h0 r "com/example/opacheck/opacheck/PrecedenceTraversal" "ranges" "[[I" .null) (FvisitedIn : Fld Z h0 r "com/example/opacheck/opacheck/PrecedenceTraversal" "visitedIn" "[I" .null) (Fpositions : Fld Z h0 r "com/example/opacheck/opacheck/PrecedenceTraversal" "positions" "[I" .null) (Flinks : Fld Z h0 r "com/example/opacheck/opacheck/PrecedenceTraversal" "links" "[I" .null) (FlinkedIn : Fld Z h0 r "com/example/opacheck/opacheck/PrecedenceTraversal" "linkedIn" "[I" .null) (Fpath : Fld Z h0 r "com/example/opacheck/opacheck/PrecedenceTraversal" "path" "[I" .null) (Fnum : Fld Z h0 r "com/example/opacheck/opacheck/PrecedenceTraversal" "number" "I" (.int (0 : Int32))) (Fsc : Fld Z h0 r "com/example/opacheck/opacheck/PrecedenceTraversal" "scope" "Ljava/util/function/IntPredicate;" .null) (Gm : Fld Z h0 q "com/example/opacheck/opacheck/PrecedenceTraversal$Neighbours" "members" "[I" (.ref v)) (Am : AL Z h0 v k .int [(.int (0 : Int32)), (.int (0 : Int32)), (.int (0 : Int32)), (.int (0 : Int32)), (.int (0 : Int32)), (.int (0 : Int32)), (.int (0 : Int32)), (.int (0 : Int32)), (.int (0 : Int32)), (.int (0 : Int32)), (.int (0 : Int32)), (.int (0 : Int32)), (.int (0 : Int32)), (.int (0 : Int32)), (.int (0 : Int32)), (.int (0 : Int32))]) (Gs : Fld Z h0 q "com/example/opacheck/opacheck/PrecedenceTraversal$Neighbours" "size" "I" (.int (0 : Int32))) (Gr : Fld Z h0 q "com/example/opacheck/opacheck/PrecedenceTraversal$Neighbours" "rangesSize" "I" (.int (0 : Int32))) (Gc : Fld Z h0 q "com/example/opacheck/opacheck/PrecedenceTraversal$Neighbours" "count" "I" (.int (2 : Int32))) (hn : Z.heap.size ≤ r) (hne : r ≠ q) (hnv : r ≠ v) :
    Met1 l Z (⟨"com/example/opacheck/opacheck/PrecedenceTraversal", "<init>", "(Lcom/example/opacheck/opacheck/PrecedenceTraversal$Neighbours;)V"⟩ : MethodName) prog_45_method_2_code 7 none ({ frames := 2, cells := 17, slots := 50, locals := 33 } : Room) #[(.ref r), (.ref q)] h0 (Q_ct2 Z r q v k h0) := by
  refine Met1.of_body (Ls := #[.val (.ref r), .val (.ref q), .unset, .unset, .unset, .unset, .unset]) pf_3 (fun m => by first | (simp [entryFrame, mkF, argsToLocals, Value.category]; done) | rfl) ?_
  intro p e s m below meth c T0 C X0 e0
  have N0 : Fr Z.heap.size [] := Fr.nil _
  refine Go.aloadN (pc' := 1) C X0 d3_0 rfl rfl rfl ?_
  refine Go.initO (pc' := 4) (W := 0) C X0 (hw _ (List.mem_of_getElem? (i := 23) rfl)) (hw _ (List.mem_of_getElem? (i := 8) rfl)) (hw _ (List.mem_of_getElem? (i := 9) rfl)) e0 rfl (by decide) (Nat.le_of_eq rfl) (by decide) d3_1 rfl ?_
  intro T101 X101 e101
  refine Go.aloadN (pc' := 5) C X101 d3_4 rfl rfl rfl ?_
  refine Go.getFR (pc' := 8) C X101 (hw _ (List.mem_of_getElem? (i := 24) rfl)) e101 Gc d3_5 rfl ?_
  refine Go.istoreN (Ls' := #[.val (.ref r), .val (.ref q), .val (.int (2 : Int32)), .unset, .unset, .unset, .unset]) (pc' := 9) C X101 d3_8 rfl rfl ?_
  refine Go.aloadN (pc' := 10) C X101 d3_9 rfl rfl rfl ?_
  refine Go.aloadN (pc' := 11) C X101 d3_10 rfl rfl rfl ?_
  refine Go.getFR (pc' := 14) C X101 (hw _ (List.mem_of_getElem? (i := 25) rfl)) e101 Gm d3_11 rfl ?_
  refine Go.aloadN (pc' := 15) C X101 d3_14 rfl rfl rfl ?_
  refine Go.getFR (pc' := 18) C X101 (hw _ (List.mem_of_getElem? (i := 26) rfl)) e101 Gs d3_15 rfl ?_
  refine Go.callS (y := (⟨"java/util/Arrays", "copyOf", "([II)[I"⟩ : MethodName)) (pc' := 21) C X101 (hw _ (List.mem_of_getElem? (i := 28) rfl)) (hw _ (List.mem_of_getElem? (i := 29) rfl)) (by decide) (rm_cpy l Z a0 hw v k h0 O0 Am) (hw _ (List.mem_of_getElem? (i := 31) rfl)) (hw _ (List.mem_of_getElem? (i := 30) rfl)) e101 (argsL := [(.ref v), (.int (0 : Int32))]) (rest := [(.ref r)]) (W := 1) rfl rfl pd_1 rfl (Nat.le_of_eq rfl) rfl (by decide) (by decide) (by decide) (by decide) d3_18 rfl ?_
  intro T105 v105 L105 X105 q105
  obtain ⟨b_105, kb_105, rfl, N105q, K105, B105_0, P105_0⟩ := q105
  have N105 := Fr.app N0 N105q
  have n_b_105 : Z.heap.size ≤ b_105 := Nat.le_trans O0.1 B105_0
  have z_b_105 : h0.size ≤ b_105 := Nat.le_trans (Nat.le_refl _) B105_0
  have c107 : Fld Z T105.heap r "com/example/opacheck/opacheck/PrecedenceTraversal" "members" "[I" .null := (Fld.keep Fmembers K105 nin0)
  have c108 : Exa Z T105.heap r "com/example/opacheck/opacheck/PrecedenceTraversal" := (Exa.keep E0 K105)
  refine Go.putF (pc' := 24) (host := "") (ty := (.array .int)) C X105 (Or.inl (hw _ (List.mem_of_getElem? (i := 40) rfl))) Via.refl rfl c107 c108 (Or.inr ⟨(hw _ (List.mem_of_getElem? (i := 41) rfl)), rfl, rfl⟩) (hw _ (List.mem_of_getElem? (i := 18) rfl)) (by decide) rfl rfl d3_21 rfl ?_
  intro T106 h106 X106 e106 W106 F106
  have N106 := Fr.snoc X106 N105 hn
  refine Go.iloadN (pc' := 25) C X106 d3_24 rfl rfl ?_
  have O110 : Ext Z.heap h106 := (Ext.wr (Ext.keep O0 K105 all0) W106 hn)
  refine Go.newP (aty := .int) (cap := 2) (vs := [(.int (0 : Int32)), (.int (0 : Int32))]) (ad := "[I") (pc' := 27) C X106 (by decide) (hw _ (List.mem_of_getElem? (i := 10) rfl)) e106 (by decide) (by decide) (by decide) (by decide) (by decide) rfl d3_25 rfl ?_
  intro T109 h109 b109 k109 X109 e109 g109 E109 A109 Ea109
  have n_b109 : Z.heap.size ≤ b109 := Nat.le_trans O110.1 (Nat.le_of_eq g109.symm)
  have z_b109 : h0.size ≤ b109 := Nat.le_trans (Nat.le_trans (Nat.le_trans (Nat.le_refl _) K105.1) (Nat.le_of_eq W106.size.symm)) (Nat.le_of_eq g109.symm)
  have A109 : AL Z h109 b109 k109 .int [(.int (0 : Int32)), (.int (0 : Int32))] := A109
  refine Go.astoreN (Ls' := #[.val (.ref r), .val (.ref q), .val (.int (2 : Int32)), .val (.ref b109), .unset, .unset, .unset]) (pc' := 28) C X109 d3_27 rfl rfl rfl ?_
  refine Go.iconst (z := (0 : Int32)) (pc' := 29) C X109 d3_28 rfl rfl ?_
  refine Go.istore (Ls' := #[.val (.ref r), .val (.ref q), .val (.int (2 : Int32)), .val (.ref b109), .val (.int (0 : Int32)), .unset, .unset]) (pc' := 31) C X109 d3_29 rfl rfl ?_
  refine Go.iload (pc' := 33) C X109 d3_31 rfl rfl ?_
  refine Go.aloadN (pc' := 34) C X109 d3_33 rfl rfl rfl ?_
  have c112 : Fld Z h109 q "com/example/opacheck/opacheck/PrecedenceTraversal$Neighbours" "rangesSize" "I" (.int (0 : Int32)) := (Fld.ext E109 (Fld.other W106 (Fld.keep Gr K105 nin0) (Or.inl (Ne.symm hne))))
  refine Go.getFR (pc' := 37) C X109 (hw _ (List.mem_of_getElem? (i := 42) rfl)) e109 c112 d3_34 rfl ?_
  refine Go.icmpYes (pc' := 59) C X109 d3_37 (flt (x := (0 : Int32)) (y := (0 : Int32)) (by decide)).2.1 (by decide) (by decide) ?_
  refine Go.aloadN (pc' := 60) C X109 d3_59 rfl rfl rfl ?_
  refine Go.iloadN (pc' := 61) C X109 d3_60 rfl rfl ?_
  have O115 : Ext Z.heap h109 := (Ext.trans O110 E109)
  refine Go.newRA (ty := .int) (cap := 2) (vs := [.null, .null]) (ad := "[[I") (pc' := 64) C X109 (by decide) (by decide) (hw _ (List.mem_of_getElem? (i := 44) rfl)) (hw _ (List.mem_of_getElem? (i := 45) rfl)) e109 (by decide) (by decide) (by decide) (by decide) (by decide) rfl d3_61 rfl ?_
  intro T114 h114 b114 k114 X114 e114 g114 E114 A114 Ea114 O114v
  have n_b114 : Z.heap.size ≤ b114 := Nat.le_trans O115.1 (Nat.le_of_eq g114.symm)
  have z_b114 : h0.size ≤ b114 := Nat.le_trans (Nat.le_trans (Nat.le_trans (Nat.le_trans (Nat.le_refl _) K105.1) (Nat.le_of_eq W106.size.symm)) E109.1) (Nat.le_of_eq g114.symm)
  have A114 : AL Z h114 b114 k114 (.array .int) [.null, .null] := A114
  have c117 : Fld Z h114 r "com/example/opacheck/opacheck/PrecedenceTraversal" "ranges" "[[I" .null := (Fld.ext E114 (Fld.ext E109 (Fld.other W106 (Fld.keep Franges K105 nin0) (Or.inr (slot_ne (Or.inr (hw _ (List.mem_of_getElem? (i := 47) rfl))) (Or.inr (hw _ (List.mem_of_getElem? (i := 41) rfl))) (by decide) (t := (.array (.array .int))) (t' := (.array .int)) (by decide) (by decide))))))
  have c118 : Exa Z h114 r "com/example/opacheck/opacheck/PrecedenceTraversal" := (Exa.ext E114 (Exa.ext E109 (Exa.wr W106 c108)))
  refine Go.putF (pc' := 67) (host := "") (ty := (.array (.array .int))) C X114 (Or.inl (hw _ (List.mem_of_getElem? (i := 46) rfl))) Via.refl e114 c117 c118 (Or.inr ⟨(hw _ (List.mem_of_getElem? (i := 47) rfl)), rfl, rfl⟩) (hw _ (List.mem_of_getElem? (i := 18) rfl)) (by decide) rfl rfl d3_64 rfl ?_
  intro T116 h116 X116 e116 W116 F116
  have N116 := Fr.snoc X116 N106 hn
  refine Go.iconst (z := (0 : Int32)) (pc' := 68) C X116 d3_67 rfl rfl ?_
  refine Go.istore (Ls' := #[.val (.ref r), .val (.ref q), .val (.int (2 : Int32)), .val (.ref b109), .val (.int (0 : Int32)), .unset, .unset]) (pc' := 70) C X116 d3_68 rfl rfl ?_
  refine Go.iload (pc' := 72) C X116 d3_70 rfl rfl ?_
  refine Go.iloadN (pc' := 73) C X116 d3_72 rfl rfl ?_
  refine Go.icmpNo (pc' := 76) C X116 d3_73 (tlt (x := (0 : Int32)) (y := (2 : Int32)) (by decide)).2.1 rfl ?_
  refine Go.aloadN (pc' := 77) C X116 d3_76 rfl rfl rfl ?_
  refine Go.getF (pc' := 80) (host := "") C X116 (Or.inl (hw _ (List.mem_of_getElem? (i := 46) rfl))) Via.refl e116 F116 d3_77 rfl ?_
  intro T120 X120 e120
  refine Go.iload (pc' := 82) C X120 d3_80 rfl rfl ?_
  refine Go.iconst (z := (2 : Int32)) (pc' := 83) C X120 d3_82 rfl rfl ?_
  refine Go.aloadN (pc' := 84) C X120 d3_83 rfl rfl rfl ?_
  refine Go.iload (pc' := 86) C X120 d3_84 rfl rfl ?_
  have ne121 : b109 ≠ r := (Nat.ne_of_gt (Nat.lt_of_lt_of_le E0.lt (Nat.le_trans (Nat.le_trans (Nat.le_trans (Nat.le_refl _) K105.1) (Nat.le_of_eq W106.size.symm)) (Nat.le_of_eq g109.symm))))
  have c122 : AL Z h116 b109 k109 .int [(.int (0 : Int32)), (.int (0 : Int32))] := (AL.other W116 (AL.ext E114 A109) ne121)
  refine Go.ldI (i := 0) (v := (.int (0 : Int32))) (pc' := 87) C X120 e120 c122 (by decide) (by decide) rfl d3_86 rfl ?_
  refine Go.imul (pc' := 88) C X120 d3_87 rfl ?_
  rw [show ((2 : Int32) * (0 : Int32)) = (0 : Int32) from by decide]
  have O124 : Ext Z.heap h116 := (Ext.wr (Ext.trans O115 E114) W116 hn)
  refine Go.newP (aty := .int) (cap := 0) (vs := []) (ad := "[I") (pc' := 90) C X120 (by decide) (hw _ (List.mem_of_getElem? (i := 10) rfl)) e120 (by decide) (by decide) (by decide) (by decide) (by decide) rfl d3_88 rfl ?_
  intro T123 h123 b123 k123 X123 e123 g123 E123 A123 Ea123
  have n_b123 : Z.heap.size ≤ b123 := Nat.le_trans O124.1 (Nat.le_of_eq g123.symm)
  have z_b123 : h0.size ≤ b123 := Nat.le_trans (Nat.le_trans (Nat.le_trans (Nat.le_trans (Nat.le_trans (Nat.le_trans (Nat.le_refl _) K105.1) (Nat.le_of_eq W106.size.symm)) E109.1) E114.1) (Nat.le_of_eq W116.size.symm)) (Nat.le_of_eq g123.symm)
  have A123 : AL Z h123 b123 k123 .int [] := A123
  have ne125 : b114 ≠ r := (Nat.ne_of_gt (Nat.lt_of_lt_of_le E0.lt (Nat.le_trans (Nat.le_trans (Nat.le_trans (Nat.le_trans (Nat.le_refl _) K105.1) (Nat.le_of_eq W106.size.symm)) E109.1) (Nat.le_of_eq g114.symm))))
  have c126 : AL Z h123 b114 k114 (.array .int) [.null, .null] := (AL.ext E123 (AL.other W116 A114 ne125))
  refine Go.stR (i := 0) (vs' := [(.ref b123), .null]) (pc' := 91) C X123 e123 c126 (by decide) (by decide) (by simp) rfl (AL.stoA c126 O114v (Ins.self Ea123)) rfl d3_90 rfl ?_
  intro T127 h127 X127 e127 W127 A127
  have N127 := Fr.snoc X127 N116 n_b114
  refine Go.iinc (Ls' := #[.val (.ref r), .val (.ref q), .val (.int (2 : Int32)), .val (.ref b109), .val (.int ((0 : Int32) + (1 : Int32))), .unset, .unset]) (z := (1 : Int32)) (pc' := 94) C X127 d3_91 rfl rfl rfl rfl ?_
  rw [show ((0 : Int32) + (1 : Int32)) = (1 : Int32) from by decide]
  refine Go.goto (pc' := 70) C X127 d3_94 (by decide) (by decide) ?_
  refine Go.iload (pc' := 72) C X127 d3_70 rfl rfl ?_
  refine Go.iloadN (pc' := 73) C X127 d3_72 rfl rfl ?_
  refine Go.icmpNo (pc' := 76) C X127 d3_73 (tlt (x := (1 : Int32)) (y := (2 : Int32)) (by decide)).2.1 rfl ?_
  refine Go.aloadN (pc' := 77) C X127 d3_76 rfl rfl rfl ?_
  have c130 : Fld Z h127 r "com/example/opacheck/opacheck/PrecedenceTraversal" "ranges" "[[I" (.ref b114) := (Fld.other W127 (Fld.ext E123 F116) (Or.inl (Ne.symm ne125)))
  refine Go.getF (pc' := 80) (host := "") C X127 (Or.inl (hw _ (List.mem_of_getElem? (i := 46) rfl))) Via.refl e127 c130 d3_77 rfl ?_
  intro T129 X129 e129
  refine Go.iload (pc' := 82) C X129 d3_80 rfl rfl ?_
  refine Go.iconst (z := (2 : Int32)) (pc' := 83) C X129 d3_82 rfl rfl ?_
  refine Go.aloadN (pc' := 84) C X129 d3_83 rfl rfl rfl ?_
  refine Go.iload (pc' := 86) C X129 d3_84 rfl rfl ?_
  have ne131 : b109 ≠ b114 := Nat.ne_of_lt (Nat.lt_of_lt_of_le A109.lt (Nat.le_trans (Nat.le_refl _) (Nat.le_of_eq g114.symm)))
  have c132 : AL Z h127 b109 k109 .int [(.int (0 : Int32)), (.int (0 : Int32))] := (AL.other W127 (AL.ext E123 c122) ne131)
  refine Go.ldI (i := 1) (v := (.int (0 : Int32))) (pc' := 87) C X129 e129 c132 (by decide) (by decide) rfl d3_86 rfl ?_
  refine Go.imul (pc' := 88) C X129 d3_87 rfl ?_
  rw [show ((2 : Int32) * (0 : Int32)) = (0 : Int32) from by decide]
  have O134 : Ext Z.heap h127 := (Ext.wr (Ext.trans O124 E123) W127 n_b114)
  refine Go.newP (aty := .int) (cap := 0) (vs := []) (ad := "[I") (pc' := 90) C X129 (by decide) (hw _ (List.mem_of_getElem? (i := 10) rfl)) e129 (by decide) (by decide) (by decide) (by decide) (by decide) rfl d3_88 rfl ?_
  intro T133 h133 b133 k133 X133 e133 g133 E133 A133 Ea133
  have n_b133 : Z.heap.size ≤ b133 := Nat.le_trans O134.1 (Nat.le_of_eq g133.symm)
  have z_b133 : h0.size ≤ b133 := Nat.le_trans (Nat.le_trans (Nat.le_trans (Nat.le_trans (Nat.le_trans (Nat.le_trans (Nat.le_trans (Nat.le_trans (Nat.le_refl _) K105.1) (Nat.le_of_eq W106.size.symm)) E109.1) E114.1) (Nat.le_of_eq W116.size.symm)) E123.1) (Nat.le_of_eq W127.size.symm)) (Nat.le_of_eq g133.symm)
  have A133 : AL Z h133 b133 k133 .int [] := A133
  have c135 : AL Z h133 b114 k114 (.array .int) [(.ref b123), .null] := (AL.ext E133 A127)
  refine Go.stR (i := 1) (vs' := [(.ref b123), (.ref b133)]) (pc' := 91) C X133 e133 c135 (by decide) (by decide) (by simp) rfl (AL.stoA c135 O114v (Ins.self Ea133)) rfl d3_90 rfl ?_
  intro T136 h136 X136 e136 W136 A136
  have N136 := Fr.snoc X136 N127 n_b114
  refine Go.iinc (Ls' := #[.val (.ref r), .val (.ref q), .val (.int (2 : Int32)), .val (.ref b109), .val (.int ((1 : Int32) + (1 : Int32))), .unset, .unset]) (z := (1 : Int32)) (pc' := 94) C X136 d3_91 rfl rfl rfl rfl ?_
  rw [show ((1 : Int32) + (1 : Int32)) = (2 : Int32) from by decide]
  refine Go.goto (pc' := 70) C X136 d3_94 (by decide) (by decide) ?_
  refine Go.iload (pc' := 72) C X136 d3_70 rfl rfl ?_
  refine Go.iloadN (pc' := 73) C X136 d3_72 rfl rfl ?_
  refine Go.icmpYes (pc' := 97) C X136 d3_73 (flt (x := (2 : Int32)) (y := (2 : Int32)) (by decide)).2.1 (by decide) (by decide) ?_
  refine Go.iloadN (pc' := 98) C X136 d3_97 rfl rfl ?_
  have O139 : Ext Z.heap h136 := (Ext.wr (Ext.trans O134 E133) W136 n_b114)
  refine Go.newP (aty := .int) (cap := 2) (vs := [(.int (0 : Int32)), (.int (0 : Int32))]) (ad := "[I") (pc' := 100) C X136 (by decide) (hw _ (List.mem_of_getElem? (i := 10) rfl)) e136 (by decide) (by decide) (by decide) (by decide) (by decide) rfl d3_98 rfl ?_
  intro T138 h138 b138 k138 X138 e138 g138 E138 A138 Ea138
  have n_b138 : Z.heap.size ≤ b138 := Nat.le_trans O139.1 (Nat.le_of_eq g138.symm)
  have z_b138 : h0.size ≤ b138 := Nat.le_trans (Nat.le_trans (Nat.le_trans (Nat.le_trans (Nat.le_trans (Nat.le_trans (Nat.le_trans (Nat.le_trans (Nat.le_trans (Nat.le_trans (Nat.le_refl _) K105.1) (Nat.le_of_eq W106.size.symm)) E109.1) E114.1) (Nat.le_of_eq W116.size.symm)) E123.1) (Nat.le_of_eq W127.size.symm)) E133.1) (Nat.le_of_eq W136.size.symm)) (Nat.le_of_eq g138.symm)
  have A138 : AL Z h138 b138 k138 .int [(.int (0 : Int32)), (.int (0 : Int32))] := A138
  refine Go.astore (Ls' := #[.val (.ref r), .val (.ref q), .val (.int (2 : Int32)), .val (.ref b109), .val (.ref b138), .unset, .unset]) (pc' := 102) C X138 d3_100 rfl rfl rfl ?_
  refine Go.iconst (z := (0 : Int32)) (pc' := 103) C X138 d3_102 rfl rfl ?_
  refine Go.istore (Ls' := #[.val (.ref r), .val (.ref q), .val (.int (2 : Int32)), .val (.ref b109), .val (.ref b138), .val (.int (0 : Int32)), .unset]) (pc' := 105) C X138 d3_103 rfl rfl ?_
  refine Go.iload (pc' := 107) C X138 d3_105 rfl rfl ?_
  refine Go.aloadN (pc' := 108) C X138 d3_107 rfl rfl rfl ?_
  have ne141 : q ≠ b114 := Nat.ne_of_lt (Nat.lt_of_lt_of_le Gm.lt (Nat.le_trans (Nat.le_trans (Nat.le_trans (Nat.le_trans (Nat.le_refl _) K105.1) (Nat.le_of_eq W106.size.symm)) E109.1) (Nat.le_of_eq g114.symm)))
  have c142 : Fld Z h138 q "com/example/opacheck/opacheck/PrecedenceTraversal$Neighbours" "rangesSize" "I" (.int (0 : Int32)) := (Fld.ext E138 (Fld.other W136 (Fld.ext E133 (Fld.other W127 (Fld.ext E123 (Fld.other W116 (Fld.ext E114 c112) (Or.inl (Ne.symm hne)))) (Or.inl ne141))) (Or.inl ne141)))
  refine Go.getFR (pc' := 111) C X138 (hw _ (List.mem_of_getElem? (i := 42) rfl)) e138 c142 d3_108 rfl ?_
  refine Go.icmpYes (pc' := 183) C X138 d3_111 (flt (x := (0 : Int32)) (y := (0 : Int32)) (by decide)).2.1 (by decide) (by decide) ?_
  refine Go.aloadN (pc' := 184) C X138 d3_183 rfl rfl rfl ?_
  refine Go.iloadN (pc' := 185) C X138 d3_184 rfl rfl ?_
  have O145 : Ext Z.heap h138 := (Ext.trans O139 E138)
  refine Go.newP (aty := .int) (cap := 2) (vs := [(.int (0 : Int32)), (.int (0 : Int32))]) (ad := "[I") (pc' := 187) C X138 (by decide) (hw _ (List.mem_of_getElem? (i := 10) rfl)) e138 (by decide) (by decide) (by decide) (by decide) (by decide) rfl d3_185 rfl ?_
  intro T144 h144 b144 k144 X144 e144 g144 E144 A144 Ea144
  have n_b144 : Z.heap.size ≤ b144 := Nat.le_trans O145.1 (Nat.le_of_eq g144.symm)
  have z_b144 : h0.size ≤ b144 := Nat.le_trans (Nat.le_trans (Nat.le_trans (Nat.le_trans (Nat.le_trans (Nat.le_trans (Nat.le_trans (Nat.le_trans (Nat.le_trans (Nat.le_trans (Nat.le_trans (Nat.le_refl _) K105.1) (Nat.le_of_eq W106.size.symm)) E109.1) E114.1) (Nat.le_of_eq W116.size.symm)) E123.1) (Nat.le_of_eq W127.size.symm)) E133.1) (Nat.le_of_eq W136.size.symm)) E138.1) (Nat.le_of_eq g144.symm)
  have A144 : AL Z h144 b144 k144 .int [(.int (0 : Int32)), (.int (0 : Int32))] := A144
  have c147 : Fld Z h144 r "com/example/opacheck/opacheck/PrecedenceTraversal" "visitedIn" "[I" .null := (Fld.ext E144 (Fld.ext E138 (Fld.other W136 (Fld.ext E133 (Fld.other W127 (Fld.ext E123 (Fld.other W116 (Fld.ext E114 (Fld.ext E109 (Fld.other W106 (Fld.keep FvisitedIn K105 nin0) (Or.inr (slot_ne (Or.inr (hw _ (List.mem_of_getElem? (i := 50) rfl))) (Or.inr (hw _ (List.mem_of_getElem? (i := 41) rfl))) (by decide) (t := (.array .int)) (t' := (.array .int)) (by decide) (by decide)))))) (Or.inr (slot_ne (Or.inr (hw _ (List.mem_of_getElem? (i := 50) rfl))) (Or.inr (hw _ (List.mem_of_getElem? (i := 47) rfl))) (by decide) (t := (.array .int)) (t' := (.array (.array .int))) (by decide) (by decide))))) (Or.inl (Ne.symm ne125)))) (Or.inl (Ne.symm ne125)))))
  have c148 : Exa Z h144 r "com/example/opacheck/opacheck/PrecedenceTraversal" := (Exa.ext E144 (Exa.ext E138 (Exa.wr W136 (Exa.ext E133 (Exa.wr W127 (Exa.ext E123 (Exa.wr W116 c118)))))))
  refine Go.putF (pc' := 190) (host := "") (ty := (.array .int)) C X144 (Or.inl (hw _ (List.mem_of_getElem? (i := 49) rfl))) Via.refl e144 c147 c148 (Or.inr ⟨(hw _ (List.mem_of_getElem? (i := 50) rfl)), rfl, rfl⟩) (hw _ (List.mem_of_getElem? (i := 18) rfl)) (by decide) rfl rfl d3_187 rfl ?_
  intro T146 h146 X146 e146 W146 F146
  have N146 := Fr.snoc X146 N136 hn
  refine Go.aloadN (pc' := 191) C X146 d3_190 rfl rfl rfl ?_
  refine Go.iloadN (pc' := 192) C X146 d3_191 rfl rfl ?_
  have O150 : Ext Z.heap h146 := (Ext.wr (Ext.trans O145 E144) W146 hn)
  refine Go.newP (aty := .int) (cap := 2) (vs := [(.int (0 : Int32)), (.int (0 : Int32))]) (ad := "[I") (pc' := 194) C X146 (by decide) (hw _ (List.mem_of_getElem? (i := 10) rfl)) e146 (by decide) (by decide) (by decide) (by decide) (by decide) rfl d3_192 rfl ?_
  intro T149 h149 b149 k149 X149 e149 g149 E149 A149 Ea149
  have n_b149 : Z.heap.size ≤ b149 := Nat.le_trans O150.1 (Nat.le_of_eq g149.symm)
  have z_b149 : h0.size ≤ b149 := Nat.le_trans (Nat.le_trans (Nat.le_trans (Nat.le_trans (Nat.le_trans (Nat.le_trans (Nat.le_trans (Nat.le_trans (Nat.le_trans (Nat.le_trans (Nat.le_trans (Nat.le_trans (Nat.le_trans (Nat.le_refl _) K105.1) (Nat.le_of_eq W106.size.symm)) E109.1) E114.1) (Nat.le_of_eq W116.size.symm)) E123.1) (Nat.le_of_eq W127.size.symm)) E133.1) (Nat.le_of_eq W136.size.symm)) E138.1) E144.1) (Nat.le_of_eq W146.size.symm)) (Nat.le_of_eq g149.symm)
  have A149 : AL Z h149 b149 k149 .int [(.int (0 : Int32)), (.int (0 : Int32))] := A149
  have c152 : Fld Z h149 r "com/example/opacheck/opacheck/PrecedenceTraversal" "positions" "[I" .null := (Fld.ext E149 (Fld.other W146 (Fld.ext E144 (Fld.ext E138 (Fld.other W136 (Fld.ext E133 (Fld.other W127 (Fld.ext E123 (Fld.other W116 (Fld.ext E114 (Fld.ext E109 (Fld.other W106 (Fld.keep Fpositions K105 nin0) (Or.inr (slot_ne (Or.inr (hw _ (List.mem_of_getElem? (i := 52) rfl))) (Or.inr (hw _ (List.mem_of_getElem? (i := 41) rfl))) (by decide) (t := (.array .int)) (t' := (.array .int)) (by decide) (by decide)))))) (Or.inr (slot_ne (Or.inr (hw _ (List.mem_of_getElem? (i := 52) rfl))) (Or.inr (hw _ (List.mem_of_getElem? (i := 47) rfl))) (by decide) (t := (.array .int)) (t' := (.array (.array .int))) (by decide) (by decide))))) (Or.inl (Ne.symm ne125)))) (Or.inl (Ne.symm ne125))))) (Or.inr (slot_ne (Or.inr (hw _ (List.mem_of_getElem? (i := 52) rfl))) (Or.inr (hw _ (List.mem_of_getElem? (i := 50) rfl))) (by decide) (t := (.array .int)) (t' := (.array .int)) (by decide) (by decide)))))
  have c153 : Exa Z h149 r "com/example/opacheck/opacheck/PrecedenceTraversal" := (Exa.ext E149 (Exa.wr W146 c148))
  refine Go.putF (pc' := 197) (host := "") (ty := (.array .int)) C X149 (Or.inl (hw _ (List.mem_of_getElem? (i := 51) rfl))) Via.refl e149 c152 c153 (Or.inr ⟨(hw _ (List.mem_of_getElem? (i := 52) rfl)), rfl, rfl⟩) (hw _ (List.mem_of_getElem? (i := 18) rfl)) (by decide) rfl rfl d3_194 rfl ?_
  intro T151 h151 X151 e151 W151 F151
  have N151 := Fr.snoc X151 N146 hn
  refine Go.aloadN (pc' := 198) C X151 d3_197 rfl rfl rfl ?_
  refine Go.aloadN (pc' := 199) C X151 d3_198 rfl rfl rfl ?_
  have c155 : Fld Z h151 r "com/example/opacheck/opacheck/PrecedenceTraversal" "members" "[I" (.ref b_105) := (Fld.other W151 (Fld.ext E149 (Fld.other W146 (Fld.ext E144 (Fld.ext E138 (Fld.other W136 (Fld.ext E133 (Fld.other W127 (Fld.ext E123 (Fld.other W116 (Fld.ext E114 (Fld.ext E109 F106)) (Or.inr (slot_ne (Or.inr (hw _ (List.mem_of_getElem? (i := 41) rfl))) (Or.inr (hw _ (List.mem_of_getElem? (i := 47) rfl))) (by decide) (t := (.array .int)) (t' := (.array (.array .int))) (by decide) (by decide))))) (Or.inl (Ne.symm ne125)))) (Or.inl (Ne.symm ne125))))) (Or.inr (slot_ne (Or.inr (hw _ (List.mem_of_getElem? (i := 41) rfl))) (Or.inr (hw _ (List.mem_of_getElem? (i := 50) rfl))) (by decide) (t := (.array .int)) (t' := (.array .int)) (by decide) (by decide))))) (Or.inr (slot_ne (Or.inr (hw _ (List.mem_of_getElem? (i := 41) rfl))) (Or.inr (hw _ (List.mem_of_getElem? (i := 52) rfl))) (by decide) (t := (.array .int)) (t' := (.array .int)) (by decide) (by decide))))
  refine Go.getF (pc' := 202) (host := "") C X151 (Or.inl (hw _ (List.mem_of_getElem? (i := 40) rfl))) Via.refl e151 c155 d3_199 rfl ?_
  intro T154 X154 e154
  have ne156 : b_105 ≠ r := (Nat.ne_of_gt (Nat.lt_of_lt_of_le E0.lt (Nat.le_trans (Nat.le_refl _) B105_0)))
  have ne157 : b_105 ≠ b114 := Nat.ne_of_lt (Nat.lt_of_lt_of_le P105_0.lt (Nat.le_trans (Nat.le_trans (Nat.le_trans (Nat.le_refl _) (Nat.le_of_eq W106.size.symm)) E109.1) (Nat.le_of_eq g114.symm)))
  have c158 : AL Z h151 b_105 kb_105 .int [] := (AL.other W151 (AL.ext E149 (AL.other W146 (AL.ext E144 (AL.ext E138 (AL.other W136 (AL.ext E133 (AL.other W127 (AL.ext E123 (AL.other W116 (AL.ext E114 (AL.ext E109 (AL.other W106 P105_0 ne156))) ne156)) ne157)) ne157))) ne156)) ne156)
  refine Go.alen (z := (0 : Int32)) (pc' := 203) C X154 e154 c158 rfl d3_202 rfl ?_
  refine Go.iconst (z := (1 : Int32)) (pc' := 204) C X154 d3_203 rfl rfl ?_
  refine Go.iadd (pc' := 205) C X154 d3_204 rfl ?_
  rw [show ((0 : Int32) + (1 : Int32)) = (1 : Int32) from by decide]
  have O160 : Ext Z.heap h151 := (Ext.wr (Ext.trans O150 E149) W151 hn)
  refine Go.newP (aty := .int) (cap := 1) (vs := [(.int (0 : Int32))]) (ad := "[I") (pc' := 207) C X154 (by decide) (hw _ (List.mem_of_getElem? (i := 10) rfl)) e154 (by decide) (by decide) (by decide) (by decide) (by decide) rfl d3_205 rfl ?_
  intro T159 h159 b159 k159 X159 e159 g159 E159 A159 Ea159
  have n_b159 : Z.heap.size ≤ b159 := Nat.le_trans O160.1 (Nat.le_of_eq g159.symm)
  have z_b159 : h0.size ≤ b159 := Nat.le_trans (Nat.le_trans (Nat.le_trans (Nat.le_trans (Nat.le_trans (Nat.le_trans (Nat.le_trans (Nat.le_trans (Nat.le_trans (Nat.le_trans (Nat.le_trans (Nat.le_trans (Nat.le_trans (Nat.le_trans (Nat.le_trans (Nat.le_refl _) K105.1) (Nat.le_of_eq W106.size.symm)) E109.1) E114.1) (Nat.le_of_eq W116.size.symm)) E123.1) (Nat.le_of_eq W127.size.symm)) E133.1) (Nat.le_of_eq W136.size.symm)) E138.1) E144.1) (Nat.le_of_eq W146.size.symm)) E149.1) (Nat.le_of_eq W151.size.symm)) (Nat.le_of_eq g159.symm)
  have A159 : AL Z h159 b159 k159 .int [(.int (0 : Int32))] := A159
  have c162 : Fld Z h159 r "com/example/opacheck/opacheck/PrecedenceTraversal" "links" "[I" .null := (Fld.ext E159 (Fld.other W151 (Fld.ext E149 (Fld.other W146 (Fld.ext E144 (Fld.ext E138 (Fld.other W136 (Fld.ext E133 (Fld.other W127 (Fld.ext E123 (Fld.other W116 (Fld.ext E114 (Fld.ext E109 (Fld.other W106 (Fld.keep Flinks K105 nin0) (Or.inr (slot_ne (Or.inr (hw _ (List.mem_of_getElem? (i := 54) rfl))) (Or.inr (hw _ (List.mem_of_getElem? (i := 41) rfl))) (by decide) (t := (.array .int)) (t' := (.array .int)) (by decide) (by decide)))))) (Or.inr (slot_ne (Or.inr (hw _ (List.mem_of_getElem? (i := 54) rfl))) (Or.inr (hw _ (List.mem_of_getElem? (i := 47) rfl))) (by decide) (t := (.array .int)) (t' := (.array (.array .int))) (by decide) (by decide))))) (Or.inl (Ne.symm ne125)))) (Or.inl (Ne.symm ne125))))) (Or.inr (slot_ne (Or.inr (hw _ (List.mem_of_getElem? (i := 54) rfl))) (Or.inr (hw _ (List.mem_of_getElem? (i := 50) rfl))) (by decide) (t := (.array .int)) (t' := (.array .int)) (by decide) (by decide))))) (Or.inr (slot_ne (Or.inr (hw _ (List.mem_of_getElem? (i := 54) rfl))) (Or.inr (hw _ (List.mem_of_getElem? (i := 52) rfl))) (by decide) (t := (.array .int)) (t' := (.array .int)) (by decide) (by decide)))))
  have c163 : Exa Z h159 r "com/example/opacheck/opacheck/PrecedenceTraversal" := (Exa.ext E159 (Exa.wr W151 c153))
  refine Go.putF (pc' := 210) (host := "") (ty := (.array .int)) C X159 (Or.inl (hw _ (List.mem_of_getElem? (i := 53) rfl))) Via.refl e159 c162 c163 (Or.inr ⟨(hw _ (List.mem_of_getElem? (i := 54) rfl)), rfl, rfl⟩) (hw _ (List.mem_of_getElem? (i := 18) rfl)) (by decide) rfl rfl d3_207 rfl ?_
  intro T161 h161 X161 e161 W161 F161
  have N161 := Fr.snoc X161 N151 hn
  refine Go.aloadN (pc' := 211) C X161 d3_210 rfl rfl rfl ?_
  refine Go.aloadN (pc' := 212) C X161 d3_211 rfl rfl rfl ?_
  have c165 : Fld Z h161 r "com/example/opacheck/opacheck/PrecedenceTraversal" "members" "[I" (.ref b_105) := (Fld.other W161 (Fld.ext E159 c155) (Or.inr (slot_ne (Or.inr (hw _ (List.mem_of_getElem? (i := 41) rfl))) (Or.inr (hw _ (List.mem_of_getElem? (i := 54) rfl))) (by decide) (t := (.array .int)) (t' := (.array .int)) (by decide) (by decide))))
  refine Go.getF (pc' := 215) (host := "") C X161 (Or.inl (hw _ (List.mem_of_getElem? (i := 40) rfl))) Via.refl e161 c165 d3_212 rfl ?_
  intro T164 X164 e164
  have c166 : AL Z h161 b_105 kb_105 .int [] := (AL.other W161 (AL.ext E159 c158) ne156)
  refine Go.alen (z := (0 : Int32)) (pc' := 216) C X164 e164 c166 rfl d3_215 rfl ?_
  refine Go.iconst (z := (1 : Int32)) (pc' := 217) C X164 d3_216 rfl rfl ?_
  refine Go.iadd (pc' := 218) C X164 d3_217 rfl ?_
  rw [show ((0 : Int32) + (1 : Int32)) = (1 : Int32) from by decide]
  have O168 : Ext Z.heap h161 := (Ext.wr (Ext.trans O160 E159) W161 hn)
  refine Go.newP (aty := .int) (cap := 1) (vs := [(.int (0 : Int32))]) (ad := "[I") (pc' := 220) C X164 (by decide) (hw _ (List.mem_of_getElem? (i := 10) rfl)) e164 (by decide) (by decide) (by decide) (by decide) (by decide) rfl d3_218 rfl ?_
  intro T167 h167 b167 k167 X167 e167 g167 E167 A167 Ea167
  have n_b167 : Z.heap.size ≤ b167 := Nat.le_trans O168.1 (Nat.le_of_eq g167.symm)
  have z_b167 : h0.size ≤ b167 := Nat.le_trans (Nat.le_trans (Nat.le_trans (Nat.le_trans (Nat.le_trans (Nat.le_trans (Nat.le_trans (Nat.le_trans (Nat.le_trans (Nat.le_trans (Nat.le_trans (Nat.le_trans (Nat.le_trans (Nat.le_trans (Nat.le_trans (Nat.le_trans (Nat.le_trans (Nat.le_refl _) K105.1) (Nat.le_of_eq W106.size.symm)) E109.1) E114.1) (Nat.le_of_eq W116.size.symm)) E123.1) (Nat.le_of_eq W127.size.symm)) E133.1) (Nat.le_of_eq W136.size.symm)) E138.1) E144.1) (Nat.le_of_eq W146.size.symm)) E149.1) (Nat.le_of_eq W151.size.symm)) E159.1) (Nat.le_of_eq W161.size.symm)) (Nat.le_of_eq g167.symm)
  have A167 : AL Z h167 b167 k167 .int [(.int (0 : Int32))] := A167
  have c170 : Fld Z h167 r "com/example/opacheck/opacheck/PrecedenceTraversal" "linkedIn" "[I" .null := (Fld.ext E167 (Fld.other W161 (Fld.ext E159 (Fld.other W151 (Fld.ext E149 (Fld.other W146 (Fld.ext E144 (Fld.ext E138 (Fld.other W136 (Fld.ext E133 (Fld.other W127 (Fld.ext E123 (Fld.other W116 (Fld.ext E114 (Fld.ext E109 (Fld.other W106 (Fld.keep FlinkedIn K105 nin0) (Or.inr (slot_ne (Or.inr (hw _ (List.mem_of_getElem? (i := 56) rfl))) (Or.inr (hw _ (List.mem_of_getElem? (i := 41) rfl))) (by decide) (t := (.array .int)) (t' := (.array .int)) (by decide) (by decide)))))) (Or.inr (slot_ne (Or.inr (hw _ (List.mem_of_getElem? (i := 56) rfl))) (Or.inr (hw _ (List.mem_of_getElem? (i := 47) rfl))) (by decide) (t := (.array .int)) (t' := (.array (.array .int))) (by decide) (by decide))))) (Or.inl (Ne.symm ne125)))) (Or.inl (Ne.symm ne125))))) (Or.inr (slot_ne (Or.inr (hw _ (List.mem_of_getElem? (i := 56) rfl))) (Or.inr (hw _ (List.mem_of_getElem? (i := 50) rfl))) (by decide) (t := (.array .int)) (t' := (.array .int)) (by decide) (by decide))))) (Or.inr (slot_ne (Or.inr (hw _ (List.mem_of_getElem? (i := 56) rfl))) (Or.inr (hw _ (List.mem_of_getElem? (i := 52) rfl))) (by decide) (t := (.array .int)) (t' := (.array .int)) (by decide) (by decide))))) (Or.inr (slot_ne (Or.inr (hw _ (List.mem_of_getElem? (i := 56) rfl))) (Or.inr (hw _ (List.mem_of_getElem? (i := 54) rfl))) (by decide) (t := (.array .int)) (t' := (.array .int)) (by decide) (by decide)))))
  have c171 : Exa Z h167 r "com/example/opacheck/opacheck/PrecedenceTraversal" := (Exa.ext E167 (Exa.wr W161 c163))
  refine Go.putF (pc' := 223) (host := "") (ty := (.array .int)) C X167 (Or.inl (hw _ (List.mem_of_getElem? (i := 55) rfl))) Via.refl e167 c170 c171 (Or.inr ⟨(hw _ (List.mem_of_getElem? (i := 56) rfl)), rfl, rfl⟩) (hw _ (List.mem_of_getElem? (i := 18) rfl)) (by decide) rfl rfl d3_220 rfl ?_
  intro T169 h169 X169 e169 W169 F169
  have N169 := Fr.snoc X169 N161 hn
  refine Go.aloadN (pc' := 224) C X169 d3_223 rfl rfl rfl ?_
  refine Go.iloadN (pc' := 225) C X169 d3_224 rfl rfl ?_
  have O173 : Ext Z.heap h169 := (Ext.wr (Ext.trans O168 E167) W169 hn)
  refine Go.newP (aty := .int) (cap := 2) (vs := [(.int (0 : Int32)), (.int (0 : Int32))]) (ad := "[I") (pc' := 227) C X169 (by decide) (hw _ (List.mem_of_getElem? (i := 10) rfl)) e169 (by decide) (by decide) (by decide) (by decide) (by decide) rfl d3_225 rfl ?_
  intro T172 h172 b172 k172 X172 e172 g172 E172 A172 Ea172
  have n_b172 : Z.heap.size ≤ b172 := Nat.le_trans O173.1 (Nat.le_of_eq g172.symm)
  have z_b172 : h0.size ≤ b172 := Nat.le_trans (Nat.le_trans (Nat.le_trans (Nat.le_trans (Nat.le_trans (Nat.le_trans (Nat.le_trans (Nat.le_trans (Nat.le_trans (Nat.le_trans (Nat.le_trans (Nat.le_trans (Nat.le_trans (Nat.le_trans (Nat.le_trans (Nat.le_trans (Nat.le_trans (Nat.le_trans (Nat.le_trans (Nat.le_refl _) K105.1) (Nat.le_of_eq W106.size.symm)) E109.1) E114.1) (Nat.le_of_eq W116.size.symm)) E123.1) (Nat.le_of_eq W127.size.symm)) E133.1) (Nat.le_of_eq W136.size.symm)) E138.1) E144.1) (Nat.le_of_eq W146.size.symm)) E149.1) (Nat.le_of_eq W151.size.symm)) E159.1) (Nat.le_of_eq W161.size.symm)) E167.1) (Nat.le_of_eq W169.size.symm)) (Nat.le_of_eq g172.symm)
  have A172 : AL Z h172 b172 k172 .int [(.int (0 : Int32)), (.int (0 : Int32))] := A172
  have c175 : Fld Z h172 r "com/example/opacheck/opacheck/PrecedenceTraversal" "path" "[I" .null := (Fld.ext E172 (Fld.other W169 (Fld.ext E167 (Fld.other W161 (Fld.ext E159 (Fld.other W151 (Fld.ext E149 (Fld.other W146 (Fld.ext E144 (Fld.ext E138 (Fld.other W136 (Fld.ext E133 (Fld.other W127 (Fld.ext E123 (Fld.other W116 (Fld.ext E114 (Fld.ext E109 (Fld.other W106 (Fld.keep Fpath K105 nin0) (Or.inr (slot_ne (Or.inr (hw _ (List.mem_of_getElem? (i := 58) rfl))) (Or.inr (hw _ (List.mem_of_getElem? (i := 41) rfl))) (by decide) (t := (.array .int)) (t' := (.array .int)) (by decide) (by decide)))))) (Or.inr (slot_ne (Or.inr (hw _ (List.mem_of_getElem? (i := 58) rfl))) (Or.inr (hw _ (List.mem_of_getElem? (i := 47) rfl))) (by decide) (t := (.array .int)) (t' := (.array (.array .int))) (by decide) (by decide))))) (Or.inl (Ne.symm ne125)))) (Or.inl (Ne.symm ne125))))) (Or.inr (slot_ne (Or.inr (hw _ (List.mem_of_getElem? (i := 58) rfl))) (Or.inr (hw _ (List.mem_of_getElem? (i := 50) rfl))) (by decide) (t := (.array .int)) (t' := (.array .int)) (by decide) (by decide))))) (Or.inr (slot_ne (Or.inr (hw _ (List.mem_of_getElem? (i := 58) rfl))) (Or.inr (hw _ (List.mem_of_getElem? (i := 52) rfl))) (by decide) (t := (.array .int)) (t' := (.array .int)) (by decide) (by decide))))) (Or.inr (slot_ne (Or.inr (hw _ (List.mem_of_getElem? (i := 58) rfl))) (Or.inr (hw _ (List.mem_of_getElem? (i := 54) rfl))) (by decide) (t := (.array .int)) (t' := (.array .int)) (by decide) (by decide))))) (Or.inr (slot_ne (Or.inr (hw _ (List.mem_of_getElem? (i := 58) rfl))) (Or.inr (hw _ (List.mem_of_getElem? (i := 56) rfl))) (by decide) (t := (.array .int)) (t' := (.array .int)) (by decide) (by decide)))))
  have c176 : Exa Z h172 r "com/example/opacheck/opacheck/PrecedenceTraversal" := (Exa.ext E172 (Exa.wr W169 c171))
  refine Go.putF (pc' := 230) (host := "") (ty := (.array .int)) C X172 (Or.inl (hw _ (List.mem_of_getElem? (i := 57) rfl))) Via.refl e172 c175 c176 (Or.inr ⟨(hw _ (List.mem_of_getElem? (i := 58) rfl)), rfl, rfl⟩) (hw _ (List.mem_of_getElem? (i := 18) rfl)) (by decide) rfl rfl d3_227 rfl ?_
  intro T174 h174 X174 e174 W174 F174
  have N174 := Fr.snoc X174 N169 hn
  have K177 : Keep h0 h174 [r] := (((((((((((((((((((((Keep.refl h0 [r]).trans K105 all0).wr W106 (Or.inl (by simp))).ext E109).ext E114).wr W116 (Or.inl (by simp))).ext E123).wr W127 (Or.inr z_b114)).ext E133).wr W136 (Or.inr z_b114)).ext E138).ext E144).wr W146 (Or.inl (by simp))).ext E149).wr W151 (Or.inl (by simp))).ext E159).wr W161 (Or.inl (by simp))).ext E167).wr W169 (Or.inl (by simp))).ext E172).wr W174 (Or.inl (by simp)))
  have c178 : Fld Z h174 r "com/example/opacheck/opacheck/PrecedenceTraversal" "visitedIn" "[I" (.ref b144) := (Fld.other W174 (Fld.ext E172 (Fld.other W169 (Fld.ext E167 (Fld.other W161 (Fld.ext E159 (Fld.other W151 (Fld.ext E149 F146) (Or.inr (slot_ne (Or.inr (hw _ (List.mem_of_getElem? (i := 50) rfl))) (Or.inr (hw _ (List.mem_of_getElem? (i := 52) rfl))) (by decide) (t := (.array .int)) (t' := (.array .int)) (by decide) (by decide))))) (Or.inr (slot_ne (Or.inr (hw _ (List.mem_of_getElem? (i := 50) rfl))) (Or.inr (hw _ (List.mem_of_getElem? (i := 54) rfl))) (by decide) (t := (.array .int)) (t' := (.array .int)) (by decide) (by decide))))) (Or.inr (slot_ne (Or.inr (hw _ (List.mem_of_getElem? (i := 50) rfl))) (Or.inr (hw _ (List.mem_of_getElem? (i := 56) rfl))) (by decide) (t := (.array .int)) (t' := (.array .int)) (by decide) (by decide))))) (Or.inr (slot_ne (Or.inr (hw _ (List.mem_of_getElem? (i := 50) rfl))) (Or.inr (hw _ (List.mem_of_getElem? (i := 58) rfl))) (by decide) (t := (.array .int)) (t' := (.array .int)) (by decide) (by decide))))
  have ne179 : b144 ≠ r := (Nat.ne_of_gt (Nat.lt_of_lt_of_le E0.lt (Nat.le_trans (Nat.le_trans (Nat.le_trans (Nat.le_trans (Nat.le_trans (Nat.le_trans (Nat.le_trans (Nat.le_trans (Nat.le_trans (Nat.le_trans (Nat.le_trans (Nat.le_refl _) K105.1) (Nat.le_of_eq W106.size.symm)) E109.1) E114.1) (Nat.le_of_eq W116.size.symm)) E123.1) (Nat.le_of_eq W127.size.symm)) E133.1) (Nat.le_of_eq W136.size.symm)) E138.1) (Nat.le_of_eq g144.symm))))
  have c180 : AL Z h174 b144 k144 .int [(.int (0 : Int32)), (.int (0 : Int32))] := (AL.other W174 (AL.ext E172 (AL.other W169 (AL.ext E167 (AL.other W161 (AL.ext E159 (AL.other W151 (AL.ext E149 (AL.other W146 A144 ne179)) ne179)) ne179)) ne179)) ne179)
  have c181 : Fld Z h174 r "com/example/opacheck/opacheck/PrecedenceTraversal" "positions" "[I" (.ref b149) := (Fld.other W174 (Fld.ext E172 (Fld.other W169 (Fld.ext E167 (Fld.other W161 (Fld.ext E159 F151) (Or.inr (slot_ne (Or.inr (hw _ (List.mem_of_getElem? (i := 52) rfl))) (Or.inr (hw _ (List.mem_of_getElem? (i := 54) rfl))) (by decide) (t := (.array .int)) (t' := (.array .int)) (by decide) (by decide))))) (Or.inr (slot_ne (Or.inr (hw _ (List.mem_of_getElem? (i := 52) rfl))) (Or.inr (hw _ (List.mem_of_getElem? (i := 56) rfl))) (by decide) (t := (.array .int)) (t' := (.array .int)) (by decide) (by decide))))) (Or.inr (slot_ne (Or.inr (hw _ (List.mem_of_getElem? (i := 52) rfl))) (Or.inr (hw _ (List.mem_of_getElem? (i := 58) rfl))) (by decide) (t := (.array .int)) (t' := (.array .int)) (by decide) (by decide))))
  have ne182 : b149 ≠ r := (Nat.ne_of_gt (Nat.lt_of_lt_of_le E0.lt (Nat.le_trans (Nat.le_trans (Nat.le_trans (Nat.le_trans (Nat.le_trans (Nat.le_trans (Nat.le_trans (Nat.le_trans (Nat.le_trans (Nat.le_trans (Nat.le_trans (Nat.le_trans (Nat.le_trans (Nat.le_refl _) K105.1) (Nat.le_of_eq W106.size.symm)) E109.1) E114.1) (Nat.le_of_eq W116.size.symm)) E123.1) (Nat.le_of_eq W127.size.symm)) E133.1) (Nat.le_of_eq W136.size.symm)) E138.1) E144.1) (Nat.le_of_eq W146.size.symm)) (Nat.le_of_eq g149.symm))))
  have c183 : AL Z h174 b149 k149 .int [(.int (0 : Int32)), (.int (0 : Int32))] := (AL.other W174 (AL.ext E172 (AL.other W169 (AL.ext E167 (AL.other W161 (AL.ext E159 (AL.other W151 A149 ne182)) ne182)) ne182)) ne182)
  have c184 : Fld Z h174 r "com/example/opacheck/opacheck/PrecedenceTraversal" "number" "I" (.int (0 : Int32)) := (Fld.other W174 (Fld.ext E172 (Fld.other W169 (Fld.ext E167 (Fld.other W161 (Fld.ext E159 (Fld.other W151 (Fld.ext E149 (Fld.other W146 (Fld.ext E144 (Fld.ext E138 (Fld.other W136 (Fld.ext E133 (Fld.other W127 (Fld.ext E123 (Fld.other W116 (Fld.ext E114 (Fld.ext E109 (Fld.other W106 (Fld.keep Fnum K105 nin0) (Or.inr (slot_ne (Or.inl (hw _ (List.mem_of_getElem? (i := 65) rfl))) (Or.inr (hw _ (List.mem_of_getElem? (i := 41) rfl))) (by decide) (t := .int) (t' := (.array .int)) (by decide) (by decide)))))) (Or.inr (slot_ne (Or.inl (hw _ (List.mem_of_getElem? (i := 65) rfl))) (Or.inr (hw _ (List.mem_of_getElem? (i := 47) rfl))) (by decide) (t := .int) (t' := (.array (.array .int))) (by decide) (by decide))))) (Or.inl (Ne.symm ne125)))) (Or.inl (Ne.symm ne125))))) (Or.inr (slot_ne (Or.inl (hw _ (List.mem_of_getElem? (i := 65) rfl))) (Or.inr (hw _ (List.mem_of_getElem? (i := 50) rfl))) (by decide) (t := .int) (t' := (.array .int)) (by decide) (by decide))))) (Or.inr (slot_ne (Or.inl (hw _ (List.mem_of_getElem? (i := 65) rfl))) (Or.inr (hw _ (List.mem_of_getElem? (i := 52) rfl))) (by decide) (t := .int) (t' := (.array .int)) (by decide) (by decide))))) (Or.inr (slot_ne (Or.inl (hw _ (List.mem_of_getElem? (i := 65) rfl))) (Or.inr (hw _ (List.mem_of_getElem? (i := 54) rfl))) (by decide) (t := .int) (t' := (.array .int)) (by decide) (by decide))))) (Or.inr (slot_ne (Or.inl (hw _ (List.mem_of_getElem? (i := 65) rfl))) (Or.inr (hw _ (List.mem_of_getElem? (i := 56) rfl))) (by decide) (t := .int) (t' := (.array .int)) (by decide) (by decide))))) (Or.inr (slot_ne (Or.inl (hw _ (List.mem_of_getElem? (i := 65) rfl))) (Or.inr (hw _ (List.mem_of_getElem? (i := 58) rfl))) (by decide) (t := .int) (t' := (.array .int)) (by decide) (by decide))))
  have c185 : Fld Z h174 r "com/example/opacheck/opacheck/PrecedenceTraversal" "scope" "Ljava/util/function/IntPredicate;" .null := (Fld.other W174 (Fld.ext E172 (Fld.other W169 (Fld.ext E167 (Fld.other W161 (Fld.ext E159 (Fld.other W151 (Fld.ext E149 (Fld.other W146 (Fld.ext E144 (Fld.ext E138 (Fld.other W136 (Fld.ext E133 (Fld.other W127 (Fld.ext E123 (Fld.other W116 (Fld.ext E114 (Fld.ext E109 (Fld.other W106 (Fld.keep Fsc K105 nin0) (Or.inr (slot_ne (Or.inl (hw _ (List.mem_of_getElem? (i := 67) rfl))) (Or.inr (hw _ (List.mem_of_getElem? (i := 41) rfl))) (by decide) (t := (.object "java/util/function/IntPredicate")) (t' := (.array .int)) (by decide) (by decide)))))) (Or.inr (slot_ne (Or.inl (hw _ (List.mem_of_getElem? (i := 67) rfl))) (Or.inr (hw _ (List.mem_of_getElem? (i := 47) rfl))) (by decide) (t := (.object "java/util/function/IntPredicate")) (t' := (.array (.array .int))) (by decide) (by decide))))) (Or.inl (Ne.symm ne125)))) (Or.inl (Ne.symm ne125))))) (Or.inr (slot_ne (Or.inl (hw _ (List.mem_of_getElem? (i := 67) rfl))) (Or.inr (hw _ (List.mem_of_getElem? (i := 50) rfl))) (by decide) (t := (.object "java/util/function/IntPredicate")) (t' := (.array .int)) (by decide) (by decide))))) (Or.inr (slot_ne (Or.inl (hw _ (List.mem_of_getElem? (i := 67) rfl))) (Or.inr (hw _ (List.mem_of_getElem? (i := 52) rfl))) (by decide) (t := (.object "java/util/function/IntPredicate")) (t' := (.array .int)) (by decide) (by decide))))) (Or.inr (slot_ne (Or.inl (hw _ (List.mem_of_getElem? (i := 67) rfl))) (Or.inr (hw _ (List.mem_of_getElem? (i := 54) rfl))) (by decide) (t := (.object "java/util/function/IntPredicate")) (t' := (.array .int)) (by decide) (by decide))))) (Or.inr (slot_ne (Or.inl (hw _ (List.mem_of_getElem? (i := 67) rfl))) (Or.inr (hw _ (List.mem_of_getElem? (i := 56) rfl))) (by decide) (t := (.object "java/util/function/IntPredicate")) (t' := (.array .int)) (by decide) (by decide))))) (Or.inr (slot_ne (Or.inl (hw _ (List.mem_of_getElem? (i := 67) rfl))) (Or.inr (hw _ (List.mem_of_getElem? (i := 58) rfl))) (by decide) (t := (.object "java/util/function/IntPredicate")) (t' := (.array .int)) (by decide) (by decide))))
  have ne186 : b144 ≠ b149 := Nat.ne_of_lt (Nat.lt_of_lt_of_le A144.lt (Nat.le_trans (Nat.le_trans (Nat.le_refl _) (Nat.le_of_eq W146.size.symm)) (Nat.le_of_eq g149.symm)))
  exact Go.retV C X174 rfl d3_230 (by rw [e174]; exact ⟨b144, k144, b149, k149, rfl, N174, K177, z_b144, z_b149, c178, c180, c181, c183, c184, c185, ne186⟩) (by decide) (by decide)
def Q_ct3 (Z : State) (r : Addr) (q : Addr) (v : Addr) (k : ClassId) (h0 : Heap) (rv : Option Value) (h : Heap) (L : List Loc) : Prop := ∃ vi : Addr, ∃ ki : ClassId, ∃ vp : Addr, ∃ kp : ClassId, rv = none ∧ Fr Z.heap.size L ∧ Keep h0 h [r] ∧ h0.size ≤ vi ∧ h0.size ≤ vp ∧ Fld Z h r "com/example/opacheck/opacheck/PrecedenceTraversal" "visitedIn" "[I" (.ref vi) ∧ AL Z h vi ki .int [(.int (0 : Int32)), (.int (0 : Int32)), (.int (0 : Int32))] ∧ Fld Z h r "com/example/opacheck/opacheck/PrecedenceTraversal" "positions" "[I" (.ref vp) ∧ AL Z h vp kp .int [(.int (0 : Int32)), (.int (0 : Int32)), (.int (0 : Int32))] ∧ Fld Z h r "com/example/opacheck/opacheck/PrecedenceTraversal" "number" "I" (.int (0 : Int32)) ∧ Fld Z h r "com/example/opacheck/opacheck/PrecedenceTraversal" "scope" "Ljava/util/function/IntPredicate;" .null ∧ vi ≠ vp
set_option maxRecDepth 65536 in
set_option maxHeartbeats 40000000 in
theorem rm_ct3 (l : Launch) (Z : State) (a0 : Array Value) (hw : ∀ d ∈ tables_1, d.before a0 Z = true) (r : Addr) (q : Addr) (v : Addr) (k : ClassId) (h0 : Heap) (O0 : Ext Z.heap h0) (E0 : Exa Z h0 r "com/example/opacheck/opacheck/PrecedenceTraversal") (Fmembers : Fld Z h0 r "com/example/opacheck/opacheck/PrecedenceTraversal" "members" "[I" .null) (Franges : Fld Z h0 r "com/example/opacheck/opacheck/PrecedenceTraversal" "ranges" "[[I" .null) (FvisitedIn : Fld Z h0 r "com/example/opacheck/opacheck/PrecedenceTraversal" "visitedIn" "[I" .null) (Fpositions : Fld Z h0 r "com/example/opacheck/opacheck/PrecedenceTraversal" "positions" "[I" .null) (Flinks : Fld Z h0 r "com/example/opacheck/opacheck/PrecedenceTraversal" "links" "[I" .null) (FlinkedIn : Fld Z h0 r "com/example/opacheck/opacheck/PrecedenceTraversal" "linkedIn" "[I" .null) (Fpath : Fld Z h0 r "com/example/opacheck/opacheck/PrecedenceTraversal" "path" "[I" .null) (Fnum : Fld Z h0 r "com/example/opacheck/opacheck/PrecedenceTraversal" "number" "I" (.int (0 : Int32))) (Fsc : Fld Z h0 r "com/example/opacheck/opacheck/PrecedenceTraversal" "scope" "Ljava/util/function/IntPredicate;" .null) (Gm : Fld Z h0 q "com/example/opacheck/opacheck/PrecedenceTraversal$Neighbours" "members" "[I" (.ref v)) (Am : AL Z h0 v k .int [(.int (0 : Int32)), (.int (0 : Int32)), (.int (0 : Int32)), (.int (0 : Int32)), (.int (0 : Int32)), (.int (0 : Int32)), (.int (0 : Int32)), (.int (0 : Int32)), (.int (0 : Int32)), (.int (0 : Int32)), (.int (0 : Int32)), (.int (0 : Int32)), (.int (0 : Int32)), (.int (0 : Int32)), (.int (0 : Int32)), (.int (0 : Int32))]) (Gs : Fld Z h0 q "com/example/opacheck/opacheck/PrecedenceTraversal$Neighbours" "size" "I" (.int (0 : Int32))) (Gr : Fld Z h0 q "com/example/opacheck/opacheck/PrecedenceTraversal$Neighbours" "rangesSize" "I" (.int (0 : Int32))) (Gc : Fld Z h0 q "com/example/opacheck/opacheck/PrecedenceTraversal$Neighbours" "count" "I" (.int (3 : Int32))) (hn : Z.heap.size ≤ r) (hne : r ≠ q) (hnv : r ≠ v) :
    Met1 l Z (⟨"com/example/opacheck/opacheck/PrecedenceTraversal", "<init>", "(Lcom/example/opacheck/opacheck/PrecedenceTraversal$Neighbours;)V"⟩ : MethodName) prog_45_method_2_code 7 none ({ frames := 2, cells := 17, slots := 50, locals := 33 } : Room) #[(.ref r), (.ref q)] h0 (Q_ct3 Z r q v k h0) := by
  refine Met1.of_body (Ls := #[.val (.ref r), .val (.ref q), .unset, .unset, .unset, .unset, .unset]) pf_3 (fun m => by first | (simp [entryFrame, mkF, argsToLocals, Value.category]; done) | rfl) ?_
  intro p e s m below meth c T0 C X0 e0
  have N0 : Fr Z.heap.size [] := Fr.nil _
  refine Go.aloadN (pc' := 1) C X0 d3_0 rfl rfl rfl ?_
  refine Go.initO (pc' := 4) (W := 0) C X0 (hw _ (List.mem_of_getElem? (i := 23) rfl)) (hw _ (List.mem_of_getElem? (i := 8) rfl)) (hw _ (List.mem_of_getElem? (i := 9) rfl)) e0 rfl (by decide) (Nat.le_of_eq rfl) (by decide) d3_1 rfl ?_
  intro T101 X101 e101
  refine Go.aloadN (pc' := 5) C X101 d3_4 rfl rfl rfl ?_
  refine Go.getFR (pc' := 8) C X101 (hw _ (List.mem_of_getElem? (i := 24) rfl)) e101 Gc d3_5 rfl ?_
  refine Go.istoreN (Ls' := #[.val (.ref r), .val (.ref q), .val (.int (3 : Int32)), .unset, .unset, .unset, .unset]) (pc' := 9) C X101 d3_8 rfl rfl ?_
  refine Go.aloadN (pc' := 10) C X101 d3_9 rfl rfl rfl ?_
  refine Go.aloadN (pc' := 11) C X101 d3_10 rfl rfl rfl ?_
  refine Go.getFR (pc' := 14) C X101 (hw _ (List.mem_of_getElem? (i := 25) rfl)) e101 Gm d3_11 rfl ?_
  refine Go.aloadN (pc' := 15) C X101 d3_14 rfl rfl rfl ?_
  refine Go.getFR (pc' := 18) C X101 (hw _ (List.mem_of_getElem? (i := 26) rfl)) e101 Gs d3_15 rfl ?_
  refine Go.callS (y := (⟨"java/util/Arrays", "copyOf", "([II)[I"⟩ : MethodName)) (pc' := 21) C X101 (hw _ (List.mem_of_getElem? (i := 28) rfl)) (hw _ (List.mem_of_getElem? (i := 29) rfl)) (by decide) (rm_cpy l Z a0 hw v k h0 O0 Am) (hw _ (List.mem_of_getElem? (i := 31) rfl)) (hw _ (List.mem_of_getElem? (i := 30) rfl)) e101 (argsL := [(.ref v), (.int (0 : Int32))]) (rest := [(.ref r)]) (W := 1) rfl rfl pd_1 rfl (Nat.le_of_eq rfl) rfl (by decide) (by decide) (by decide) (by decide) d3_18 rfl ?_
  intro T105 v105 L105 X105 q105
  obtain ⟨b_105, kb_105, rfl, N105q, K105, B105_0, P105_0⟩ := q105
  have N105 := Fr.app N0 N105q
  have n_b_105 : Z.heap.size ≤ b_105 := Nat.le_trans O0.1 B105_0
  have z_b_105 : h0.size ≤ b_105 := Nat.le_trans (Nat.le_refl _) B105_0
  have c107 : Fld Z T105.heap r "com/example/opacheck/opacheck/PrecedenceTraversal" "members" "[I" .null := (Fld.keep Fmembers K105 nin0)
  have c108 : Exa Z T105.heap r "com/example/opacheck/opacheck/PrecedenceTraversal" := (Exa.keep E0 K105)
  refine Go.putF (pc' := 24) (host := "") (ty := (.array .int)) C X105 (Or.inl (hw _ (List.mem_of_getElem? (i := 40) rfl))) Via.refl rfl c107 c108 (Or.inr ⟨(hw _ (List.mem_of_getElem? (i := 41) rfl)), rfl, rfl⟩) (hw _ (List.mem_of_getElem? (i := 18) rfl)) (by decide) rfl rfl d3_21 rfl ?_
  intro T106 h106 X106 e106 W106 F106
  have N106 := Fr.snoc X106 N105 hn
  refine Go.iloadN (pc' := 25) C X106 d3_24 rfl rfl ?_
  have O110 : Ext Z.heap h106 := (Ext.wr (Ext.keep O0 K105 all0) W106 hn)
  refine Go.newP (aty := .int) (cap := 3) (vs := [(.int (0 : Int32)), (.int (0 : Int32)), (.int (0 : Int32))]) (ad := "[I") (pc' := 27) C X106 (by decide) (hw _ (List.mem_of_getElem? (i := 10) rfl)) e106 (by decide) (by decide) (by decide) (by decide) (by decide) rfl d3_25 rfl ?_
  intro T109 h109 b109 k109 X109 e109 g109 E109 A109 Ea109
  have n_b109 : Z.heap.size ≤ b109 := Nat.le_trans O110.1 (Nat.le_of_eq g109.symm)
  have z_b109 : h0.size ≤ b109 := Nat.le_trans (Nat.le_trans (Nat.le_trans (Nat.le_refl _) K105.1) (Nat.le_of_eq W106.size.symm)) (Nat.le_of_eq g109.symm)
  have A109 : AL Z h109 b109 k109 .int [(.int (0 : Int32)), (.int (0 : Int32)), (.int (0 : Int32))] := A109
  refine Go.astoreN (Ls' := #[.val (.ref r), .val (.ref q), .val (.int (3 : Int32)), .val (.ref b109), .unset, .unset, .unset]) (pc' := 28) C X109 d3_27 rfl rfl rfl ?_
  refine Go.iconst (z := (0 : Int32)) (pc' := 29) C X109 d3_28 rfl rfl ?_
  refine Go.istore (Ls' := #[.val (.ref r), .val (.ref q), .val (.int (3 : Int32)), .val (.ref b109), .val (.int (0 : Int32)), .unset, .unset]) (pc' := 31) C X109 d3_29 rfl rfl ?_
  refine Go.iload (pc' := 33) C X109 d3_31 rfl rfl ?_
  refine Go.aloadN (pc' := 34) C X109 d3_33 rfl rfl rfl ?_
  have c112 : Fld Z h109 q "com/example/opacheck/opacheck/PrecedenceTraversal$Neighbours" "rangesSize" "I" (.int (0 : Int32)) := (Fld.ext E109 (Fld.other W106 (Fld.keep Gr K105 nin0) (Or.inl (Ne.symm hne))))
  refine Go.getFR (pc' := 37) C X109 (hw _ (List.mem_of_getElem? (i := 42) rfl)) e109 c112 d3_34 rfl ?_
  refine Go.icmpYes (pc' := 59) C X109 d3_37 (flt (x := (0 : Int32)) (y := (0 : Int32)) (by decide)).2.1 (by decide) (by decide) ?_
  refine Go.aloadN (pc' := 60) C X109 d3_59 rfl rfl rfl ?_
  refine Go.iloadN (pc' := 61) C X109 d3_60 rfl rfl ?_
  have O115 : Ext Z.heap h109 := (Ext.trans O110 E109)
  refine Go.newRA (ty := .int) (cap := 3) (vs := [.null, .null, .null]) (ad := "[[I") (pc' := 64) C X109 (by decide) (by decide) (hw _ (List.mem_of_getElem? (i := 44) rfl)) (hw _ (List.mem_of_getElem? (i := 45) rfl)) e109 (by decide) (by decide) (by decide) (by decide) (by decide) rfl d3_61 rfl ?_
  intro T114 h114 b114 k114 X114 e114 g114 E114 A114 Ea114 O114v
  have n_b114 : Z.heap.size ≤ b114 := Nat.le_trans O115.1 (Nat.le_of_eq g114.symm)
  have z_b114 : h0.size ≤ b114 := Nat.le_trans (Nat.le_trans (Nat.le_trans (Nat.le_trans (Nat.le_refl _) K105.1) (Nat.le_of_eq W106.size.symm)) E109.1) (Nat.le_of_eq g114.symm)
  have A114 : AL Z h114 b114 k114 (.array .int) [.null, .null, .null] := A114
  have c117 : Fld Z h114 r "com/example/opacheck/opacheck/PrecedenceTraversal" "ranges" "[[I" .null := (Fld.ext E114 (Fld.ext E109 (Fld.other W106 (Fld.keep Franges K105 nin0) (Or.inr (slot_ne (Or.inr (hw _ (List.mem_of_getElem? (i := 47) rfl))) (Or.inr (hw _ (List.mem_of_getElem? (i := 41) rfl))) (by decide) (t := (.array (.array .int))) (t' := (.array .int)) (by decide) (by decide))))))
  have c118 : Exa Z h114 r "com/example/opacheck/opacheck/PrecedenceTraversal" := (Exa.ext E114 (Exa.ext E109 (Exa.wr W106 c108)))
  refine Go.putF (pc' := 67) (host := "") (ty := (.array (.array .int))) C X114 (Or.inl (hw _ (List.mem_of_getElem? (i := 46) rfl))) Via.refl e114 c117 c118 (Or.inr ⟨(hw _ (List.mem_of_getElem? (i := 47) rfl)), rfl, rfl⟩) (hw _ (List.mem_of_getElem? (i := 18) rfl)) (by decide) rfl rfl d3_64 rfl ?_
  intro T116 h116 X116 e116 W116 F116
  have N116 := Fr.snoc X116 N106 hn
  refine Go.iconst (z := (0 : Int32)) (pc' := 68) C X116 d3_67 rfl rfl ?_
  refine Go.istore (Ls' := #[.val (.ref r), .val (.ref q), .val (.int (3 : Int32)), .val (.ref b109), .val (.int (0 : Int32)), .unset, .unset]) (pc' := 70) C X116 d3_68 rfl rfl ?_
  refine Go.iload (pc' := 72) C X116 d3_70 rfl rfl ?_
  refine Go.iloadN (pc' := 73) C X116 d3_72 rfl rfl ?_
  refine Go.icmpNo (pc' := 76) C X116 d3_73 (tlt (x := (0 : Int32)) (y := (3 : Int32)) (by decide)).2.1 rfl ?_
  refine Go.aloadN (pc' := 77) C X116 d3_76 rfl rfl rfl ?_
  refine Go.getF (pc' := 80) (host := "") C X116 (Or.inl (hw _ (List.mem_of_getElem? (i := 46) rfl))) Via.refl e116 F116 d3_77 rfl ?_
  intro T120 X120 e120
  refine Go.iload (pc' := 82) C X120 d3_80 rfl rfl ?_
  refine Go.iconst (z := (2 : Int32)) (pc' := 83) C X120 d3_82 rfl rfl ?_
  refine Go.aloadN (pc' := 84) C X120 d3_83 rfl rfl rfl ?_
  refine Go.iload (pc' := 86) C X120 d3_84 rfl rfl ?_
  have ne121 : b109 ≠ r := (Nat.ne_of_gt (Nat.lt_of_lt_of_le E0.lt (Nat.le_trans (Nat.le_trans (Nat.le_trans (Nat.le_refl _) K105.1) (Nat.le_of_eq W106.size.symm)) (Nat.le_of_eq g109.symm))))
  have c122 : AL Z h116 b109 k109 .int [(.int (0 : Int32)), (.int (0 : Int32)), (.int (0 : Int32))] := (AL.other W116 (AL.ext E114 A109) ne121)
  refine Go.ldI (i := 0) (v := (.int (0 : Int32))) (pc' := 87) C X120 e120 c122 (by decide) (by decide) rfl d3_86 rfl ?_
  refine Go.imul (pc' := 88) C X120 d3_87 rfl ?_
  rw [show ((2 : Int32) * (0 : Int32)) = (0 : Int32) from by decide]
  have O124 : Ext Z.heap h116 := (Ext.wr (Ext.trans O115 E114) W116 hn)
  refine Go.newP (aty := .int) (cap := 0) (vs := []) (ad := "[I") (pc' := 90) C X120 (by decide) (hw _ (List.mem_of_getElem? (i := 10) rfl)) e120 (by decide) (by decide) (by decide) (by decide) (by decide) rfl d3_88 rfl ?_
  intro T123 h123 b123 k123 X123 e123 g123 E123 A123 Ea123
  have n_b123 : Z.heap.size ≤ b123 := Nat.le_trans O124.1 (Nat.le_of_eq g123.symm)
  have z_b123 : h0.size ≤ b123 := Nat.le_trans (Nat.le_trans (Nat.le_trans (Nat.le_trans (Nat.le_trans (Nat.le_trans (Nat.le_refl _) K105.1) (Nat.le_of_eq W106.size.symm)) E109.1) E114.1) (Nat.le_of_eq W116.size.symm)) (Nat.le_of_eq g123.symm)
  have A123 : AL Z h123 b123 k123 .int [] := A123
  have ne125 : b114 ≠ r := (Nat.ne_of_gt (Nat.lt_of_lt_of_le E0.lt (Nat.le_trans (Nat.le_trans (Nat.le_trans (Nat.le_trans (Nat.le_refl _) K105.1) (Nat.le_of_eq W106.size.symm)) E109.1) (Nat.le_of_eq g114.symm))))
  have c126 : AL Z h123 b114 k114 (.array .int) [.null, .null, .null] := (AL.ext E123 (AL.other W116 A114 ne125))
  refine Go.stR (i := 0) (vs' := [(.ref b123), .null, .null]) (pc' := 91) C X123 e123 c126 (by decide) (by decide) (by simp) rfl (AL.stoA c126 O114v (Ins.self Ea123)) rfl d3_90 rfl ?_
  intro T127 h127 X127 e127 W127 A127
  have N127 := Fr.snoc X127 N116 n_b114
  refine Go.iinc (Ls' := #[.val (.ref r), .val (.ref q), .val (.int (3 : Int32)), .val (.ref b109), .val (.int ((0 : Int32) + (1 : Int32))), .unset, .unset]) (z := (1 : Int32)) (pc' := 94) C X127 d3_91 rfl rfl rfl rfl ?_
  rw [show ((0 : Int32) + (1 : Int32)) = (1 : Int32) from by decide]
  refine Go.goto (pc' := 70) C X127 d3_94 (by decide) (by decide) ?_
  refine Go.iload (pc' := 72) C X127 d3_70 rfl rfl ?_
  refine Go.iloadN (pc' := 73) C X127 d3_72 rfl rfl ?_
  refine Go.icmpNo (pc' := 76) C X127 d3_73 (tlt (x := (1 : Int32)) (y := (3 : Int32)) (by decide)).2.1 rfl ?_
  refine Go.aloadN (pc' := 77) C X127 d3_76 rfl rfl rfl ?_
  have c130 : Fld Z h127 r "com/example/opacheck/opacheck/PrecedenceTraversal" "ranges" "[[I" (.ref b114) := (Fld.other W127 (Fld.ext E123 F116) (Or.inl (Ne.symm ne125)))
  refine Go.getF (pc' := 80) (host := "") C X127 (Or.inl (hw _ (List.mem_of_getElem? (i := 46) rfl))) Via.refl e127 c130 d3_77 rfl ?_
  intro T129 X129 e129
  refine Go.iload (pc' := 82) C X129 d3_80 rfl rfl ?_
  refine Go.iconst (z := (2 : Int32)) (pc' := 83) C X129 d3_82 rfl rfl ?_
  refine Go.aloadN (pc' := 84) C X129 d3_83 rfl rfl rfl ?_
  refine Go.iload (pc' := 86) C X129 d3_84 rfl rfl ?_
  have ne131 : b109 ≠ b114 := Nat.ne_of_lt (Nat.lt_of_lt_of_le A109.lt (Nat.le_trans (Nat.le_refl _) (Nat.le_of_eq g114.symm)))
  have c132 : AL Z h127 b109 k109 .int [(.int (0 : Int32)), (.int (0 : Int32)), (.int (0 : Int32))] := (AL.other W127 (AL.ext E123 c122) ne131)
  refine Go.ldI (i := 1) (v := (.int (0 : Int32))) (pc' := 87) C X129 e129 c132 (by decide) (by decide) rfl d3_86 rfl ?_
  refine Go.imul (pc' := 88) C X129 d3_87 rfl ?_
  rw [show ((2 : Int32) * (0 : Int32)) = (0 : Int32) from by decide]
  have O134 : Ext Z.heap h127 := (Ext.wr (Ext.trans O124 E123) W127 n_b114)
  refine Go.newP (aty := .int) (cap := 0) (vs := []) (ad := "[I") (pc' := 90) C X129 (by decide) (hw _ (List.mem_of_getElem? (i := 10) rfl)) e129 (by decide) (by decide) (by decide) (by decide) (by decide) rfl d3_88 rfl ?_
  intro T133 h133 b133 k133 X133 e133 g133 E133 A133 Ea133
  have n_b133 : Z.heap.size ≤ b133 := Nat.le_trans O134.1 (Nat.le_of_eq g133.symm)
  have z_b133 : h0.size ≤ b133 := Nat.le_trans (Nat.le_trans (Nat.le_trans (Nat.le_trans (Nat.le_trans (Nat.le_trans (Nat.le_trans (Nat.le_trans (Nat.le_refl _) K105.1) (Nat.le_of_eq W106.size.symm)) E109.1) E114.1) (Nat.le_of_eq W116.size.symm)) E123.1) (Nat.le_of_eq W127.size.symm)) (Nat.le_of_eq g133.symm)
  have A133 : AL Z h133 b133 k133 .int [] := A133
  have c135 : AL Z h133 b114 k114 (.array .int) [(.ref b123), .null, .null] := (AL.ext E133 A127)
  refine Go.stR (i := 1) (vs' := [(.ref b123), (.ref b133), .null]) (pc' := 91) C X133 e133 c135 (by decide) (by decide) (by simp) rfl (AL.stoA c135 O114v (Ins.self Ea133)) rfl d3_90 rfl ?_
  intro T136 h136 X136 e136 W136 A136
  have N136 := Fr.snoc X136 N127 n_b114
  refine Go.iinc (Ls' := #[.val (.ref r), .val (.ref q), .val (.int (3 : Int32)), .val (.ref b109), .val (.int ((1 : Int32) + (1 : Int32))), .unset, .unset]) (z := (1 : Int32)) (pc' := 94) C X136 d3_91 rfl rfl rfl rfl ?_
  rw [show ((1 : Int32) + (1 : Int32)) = (2 : Int32) from by decide]
  refine Go.goto (pc' := 70) C X136 d3_94 (by decide) (by decide) ?_
  refine Go.iload (pc' := 72) C X136 d3_70 rfl rfl ?_
  refine Go.iloadN (pc' := 73) C X136 d3_72 rfl rfl ?_
  refine Go.icmpNo (pc' := 76) C X136 d3_73 (tlt (x := (2 : Int32)) (y := (3 : Int32)) (by decide)).2.1 rfl ?_
  refine Go.aloadN (pc' := 77) C X136 d3_76 rfl rfl rfl ?_
  have c139 : Fld Z h136 r "com/example/opacheck/opacheck/PrecedenceTraversal" "ranges" "[[I" (.ref b114) := (Fld.other W136 (Fld.ext E133 c130) (Or.inl (Ne.symm ne125)))
  refine Go.getF (pc' := 80) (host := "") C X136 (Or.inl (hw _ (List.mem_of_getElem? (i := 46) rfl))) Via.refl e136 c139 d3_77 rfl ?_
  intro T138 X138 e138
  refine Go.iload (pc' := 82) C X138 d3_80 rfl rfl ?_
  refine Go.iconst (z := (2 : Int32)) (pc' := 83) C X138 d3_82 rfl rfl ?_
  refine Go.aloadN (pc' := 84) C X138 d3_83 rfl rfl rfl ?_
  refine Go.iload (pc' := 86) C X138 d3_84 rfl rfl ?_
  have c140 : AL Z h136 b109 k109 .int [(.int (0 : Int32)), (.int (0 : Int32)), (.int (0 : Int32))] := (AL.other W136 (AL.ext E133 c132) ne131)
  refine Go.ldI (i := 2) (v := (.int (0 : Int32))) (pc' := 87) C X138 e138 c140 (by decide) (by decide) rfl d3_86 rfl ?_
  refine Go.imul (pc' := 88) C X138 d3_87 rfl ?_
  rw [show ((2 : Int32) * (0 : Int32)) = (0 : Int32) from by decide]
  have O142 : Ext Z.heap h136 := (Ext.wr (Ext.trans O134 E133) W136 n_b114)
  refine Go.newP (aty := .int) (cap := 0) (vs := []) (ad := "[I") (pc' := 90) C X138 (by decide) (hw _ (List.mem_of_getElem? (i := 10) rfl)) e138 (by decide) (by decide) (by decide) (by decide) (by decide) rfl d3_88 rfl ?_
  intro T141 h141 b141 k141 X141 e141 g141 E141 A141 Ea141
  have n_b141 : Z.heap.size ≤ b141 := Nat.le_trans O142.1 (Nat.le_of_eq g141.symm)
  have z_b141 : h0.size ≤ b141 := Nat.le_trans (Nat.le_trans (Nat.le_trans (Nat.le_trans (Nat.le_trans (Nat.le_trans (Nat.le_trans (Nat.le_trans (Nat.le_trans (Nat.le_trans (Nat.le_refl _) K105.1) (Nat.le_of_eq W106.size.symm)) E109.1) E114.1) (Nat.le_of_eq W116.size.symm)) E123.1) (Nat.le_of_eq W127.size.symm)) E133.1) (Nat.le_of_eq W136.size.symm)) (Nat.le_of_eq g141.symm)
  have A141 : AL Z h141 b141 k141 .int [] := A141
  have c143 : AL Z h141 b114 k114 (.array .int) [(.ref b123), (.ref b133), .null] := (AL.ext E141 A136)
  refine Go.stR (i := 2) (vs' := [(.ref b123), (.ref b133), (.ref b141)]) (pc' := 91) C X141 e141 c143 (by decide) (by decide) (by simp) rfl (AL.stoA c143 O114v (Ins.self Ea141)) rfl d3_90 rfl ?_
  intro T144 h144 X144 e144 W144 A144
  have N144 := Fr.snoc X144 N136 n_b114
  refine Go.iinc (Ls' := #[.val (.ref r), .val (.ref q), .val (.int (3 : Int32)), .val (.ref b109), .val (.int ((2 : Int32) + (1 : Int32))), .unset, .unset]) (z := (1 : Int32)) (pc' := 94) C X144 d3_91 rfl rfl rfl rfl ?_
  rw [show ((2 : Int32) + (1 : Int32)) = (3 : Int32) from by decide]
  refine Go.goto (pc' := 70) C X144 d3_94 (by decide) (by decide) ?_
  refine Go.iload (pc' := 72) C X144 d3_70 rfl rfl ?_
  refine Go.iloadN (pc' := 73) C X144 d3_72 rfl rfl ?_
  refine Go.icmpYes (pc' := 97) C X144 d3_73 (flt (x := (3 : Int32)) (y := (3 : Int32)) (by decide)).2.1 (by decide) (by decide) ?_
  refine Go.iloadN (pc' := 98) C X144 d3_97 rfl rfl ?_
  have O147 : Ext Z.heap h144 := (Ext.wr (Ext.trans O142 E141) W144 n_b114)
  refine Go.newP (aty := .int) (cap := 3) (vs := [(.int (0 : Int32)), (.int (0 : Int32)), (.int (0 : Int32))]) (ad := "[I") (pc' := 100) C X144 (by decide) (hw _ (List.mem_of_getElem? (i := 10) rfl)) e144 (by decide) (by decide) (by decide) (by decide) (by decide) rfl d3_98 rfl ?_
  intro T146 h146 b146 k146 X146 e146 g146 E146 A146 Ea146
  have n_b146 : Z.heap.size ≤ b146 := Nat.le_trans O147.1 (Nat.le_of_eq g146.symm)
  have z_b146 : h0.size ≤ b146 := Nat.le_trans (Nat.le_trans (Nat.le_trans (Nat.le_trans (Nat.le_trans (Nat.le_trans (Nat.le_trans (Nat.le_trans (Nat.le_trans (Nat.le_trans (Nat.le_trans (Nat.le_trans (Nat.le_refl _) K105.1) (Nat.le_of_eq W106.size.symm)) E109.1) E114.1) (Nat.le_of_eq W116.size.symm)) E123.1) (Nat.le_of_eq W127.size.symm)) E133.1) (Nat.le_of_eq W136.size.symm)) E141.1) (Nat.le_of_eq W144.size.symm)) (Nat.le_of_eq g146.symm)
  have A146 : AL Z h146 b146 k146 .int [(.int (0 : Int32)), (.int (0 : Int32)), (.int (0 : Int32))] := A146
  refine Go.astore (Ls' := #[.val (.ref r), .val (.ref q), .val (.int (3 : Int32)), .val (.ref b109), .val (.ref b146), .unset, .unset]) (pc' := 102) C X146 d3_100 rfl rfl rfl ?_
  refine Go.iconst (z := (0 : Int32)) (pc' := 103) C X146 d3_102 rfl rfl ?_
  refine Go.istore (Ls' := #[.val (.ref r), .val (.ref q), .val (.int (3 : Int32)), .val (.ref b109), .val (.ref b146), .val (.int (0 : Int32)), .unset]) (pc' := 105) C X146 d3_103 rfl rfl ?_
  refine Go.iload (pc' := 107) C X146 d3_105 rfl rfl ?_
  refine Go.aloadN (pc' := 108) C X146 d3_107 rfl rfl rfl ?_
  have ne149 : q ≠ b114 := Nat.ne_of_lt (Nat.lt_of_lt_of_le Gm.lt (Nat.le_trans (Nat.le_trans (Nat.le_trans (Nat.le_trans (Nat.le_refl _) K105.1) (Nat.le_of_eq W106.size.symm)) E109.1) (Nat.le_of_eq g114.symm)))
  have c150 : Fld Z h146 q "com/example/opacheck/opacheck/PrecedenceTraversal$Neighbours" "rangesSize" "I" (.int (0 : Int32)) := (Fld.ext E146 (Fld.other W144 (Fld.ext E141 (Fld.other W136 (Fld.ext E133 (Fld.other W127 (Fld.ext E123 (Fld.other W116 (Fld.ext E114 c112) (Or.inl (Ne.symm hne)))) (Or.inl ne149))) (Or.inl ne149))) (Or.inl ne149)))
  refine Go.getFR (pc' := 111) C X146 (hw _ (List.mem_of_getElem? (i := 42) rfl)) e146 c150 d3_108 rfl ?_
  refine Go.icmpYes (pc' := 183) C X146 d3_111 (flt (x := (0 : Int32)) (y := (0 : Int32)) (by decide)).2.1 (by decide) (by decide) ?_
  refine Go.aloadN (pc' := 184) C X146 d3_183 rfl rfl rfl ?_
  refine Go.iloadN (pc' := 185) C X146 d3_184 rfl rfl ?_
  have O153 : Ext Z.heap h146 := (Ext.trans O147 E146)
  refine Go.newP (aty := .int) (cap := 3) (vs := [(.int (0 : Int32)), (.int (0 : Int32)), (.int (0 : Int32))]) (ad := "[I") (pc' := 187) C X146 (by decide) (hw _ (List.mem_of_getElem? (i := 10) rfl)) e146 (by decide) (by decide) (by decide) (by decide) (by decide) rfl d3_185 rfl ?_
  intro T152 h152 b152 k152 X152 e152 g152 E152 A152 Ea152
  have n_b152 : Z.heap.size ≤ b152 := Nat.le_trans O153.1 (Nat.le_of_eq g152.symm)
  have z_b152 : h0.size ≤ b152 := Nat.le_trans (Nat.le_trans (Nat.le_trans (Nat.le_trans (Nat.le_trans (Nat.le_trans (Nat.le_trans (Nat.le_trans (Nat.le_trans (Nat.le_trans (Nat.le_trans (Nat.le_trans (Nat.le_trans (Nat.le_refl _) K105.1) (Nat.le_of_eq W106.size.symm)) E109.1) E114.1) (Nat.le_of_eq W116.size.symm)) E123.1) (Nat.le_of_eq W127.size.symm)) E133.1) (Nat.le_of_eq W136.size.symm)) E141.1) (Nat.le_of_eq W144.size.symm)) E146.1) (Nat.le_of_eq g152.symm)
  have A152 : AL Z h152 b152 k152 .int [(.int (0 : Int32)), (.int (0 : Int32)), (.int (0 : Int32))] := A152
  have c155 : Fld Z h152 r "com/example/opacheck/opacheck/PrecedenceTraversal" "visitedIn" "[I" .null := (Fld.ext E152 (Fld.ext E146 (Fld.other W144 (Fld.ext E141 (Fld.other W136 (Fld.ext E133 (Fld.other W127 (Fld.ext E123 (Fld.other W116 (Fld.ext E114 (Fld.ext E109 (Fld.other W106 (Fld.keep FvisitedIn K105 nin0) (Or.inr (slot_ne (Or.inr (hw _ (List.mem_of_getElem? (i := 50) rfl))) (Or.inr (hw _ (List.mem_of_getElem? (i := 41) rfl))) (by decide) (t := (.array .int)) (t' := (.array .int)) (by decide) (by decide)))))) (Or.inr (slot_ne (Or.inr (hw _ (List.mem_of_getElem? (i := 50) rfl))) (Or.inr (hw _ (List.mem_of_getElem? (i := 47) rfl))) (by decide) (t := (.array .int)) (t' := (.array (.array .int))) (by decide) (by decide))))) (Or.inl (Ne.symm ne125)))) (Or.inl (Ne.symm ne125)))) (Or.inl (Ne.symm ne125)))))
  have c156 : Exa Z h152 r "com/example/opacheck/opacheck/PrecedenceTraversal" := (Exa.ext E152 (Exa.ext E146 (Exa.wr W144 (Exa.ext E141 (Exa.wr W136 (Exa.ext E133 (Exa.wr W127 (Exa.ext E123 (Exa.wr W116 c118)))))))))
  refine Go.putF (pc' := 190) (host := "") (ty := (.array .int)) C X152 (Or.inl (hw _ (List.mem_of_getElem? (i := 49) rfl))) Via.refl e152 c155 c156 (Or.inr ⟨(hw _ (List.mem_of_getElem? (i := 50) rfl)), rfl, rfl⟩) (hw _ (List.mem_of_getElem? (i := 18) rfl)) (by decide) rfl rfl d3_187 rfl ?_
  intro T154 h154 X154 e154 W154 F154
  have N154 := Fr.snoc X154 N144 hn
  refine Go.aloadN (pc' := 191) C X154 d3_190 rfl rfl rfl ?_
  refine Go.iloadN (pc' := 192) C X154 d3_191 rfl rfl ?_
  have O158 : Ext Z.heap h154 := (Ext.wr (Ext.trans O153 E152) W154 hn)
  refine Go.newP (aty := .int) (cap := 3) (vs := [(.int (0 : Int32)), (.int (0 : Int32)), (.int (0 : Int32))]) (ad := "[I") (pc' := 194) C X154 (by decide) (hw _ (List.mem_of_getElem? (i := 10) rfl)) e154 (by decide) (by decide) (by decide) (by decide) (by decide) rfl d3_192 rfl ?_
  intro T157 h157 b157 k157 X157 e157 g157 E157 A157 Ea157
  have n_b157 : Z.heap.size ≤ b157 := Nat.le_trans O158.1 (Nat.le_of_eq g157.symm)
  have z_b157 : h0.size ≤ b157 := Nat.le_trans (Nat.le_trans (Nat.le_trans (Nat.le_trans (Nat.le_trans (Nat.le_trans (Nat.le_trans (Nat.le_trans (Nat.le_trans (Nat.le_trans (Nat.le_trans (Nat.le_trans (Nat.le_trans (Nat.le_trans (Nat.le_trans (Nat.le_refl _) K105.1) (Nat.le_of_eq W106.size.symm)) E109.1) E114.1) (Nat.le_of_eq W116.size.symm)) E123.1) (Nat.le_of_eq W127.size.symm)) E133.1) (Nat.le_of_eq W136.size.symm)) E141.1) (Nat.le_of_eq W144.size.symm)) E146.1) E152.1) (Nat.le_of_eq W154.size.symm)) (Nat.le_of_eq g157.symm)
  have A157 : AL Z h157 b157 k157 .int [(.int (0 : Int32)), (.int (0 : Int32)), (.int (0 : Int32))] := A157
  have c160 : Fld Z h157 r "com/example/opacheck/opacheck/PrecedenceTraversal" "positions" "[I" .null := (Fld.ext E157 (Fld.other W154 (Fld.ext E152 (Fld.ext E146 (Fld.other W144 (Fld.ext E141 (Fld.other W136 (Fld.ext E133 (Fld.other W127 (Fld.ext E123 (Fld.other W116 (Fld.ext E114 (Fld.ext E109 (Fld.other W106 (Fld.keep Fpositions K105 nin0) (Or.inr (slot_ne (Or.inr (hw _ (List.mem_of_getElem? (i := 52) rfl))) (Or.inr (hw _ (List.mem_of_getElem? (i := 41) rfl))) (by decide) (t := (.array .int)) (t' := (.array .int)) (by decide) (by decide)))))) (Or.inr (slot_ne (Or.inr (hw _ (List.mem_of_getElem? (i := 52) rfl))) (Or.inr (hw _ (List.mem_of_getElem? (i := 47) rfl))) (by decide) (t := (.array .int)) (t' := (.array (.array .int))) (by decide) (by decide))))) (Or.inl (Ne.symm ne125)))) (Or.inl (Ne.symm ne125)))) (Or.inl (Ne.symm ne125))))) (Or.inr (slot_ne (Or.inr (hw _ (List.mem_of_getElem? (i := 52) rfl))) (Or.inr (hw _ (List.mem_of_getElem? (i := 50) rfl))) (by decide) (t := (.array .int)) (t' := (.array .int)) (by decide) (by decide)))))
  have c161 : Exa Z h157 r "com/example/opacheck/opacheck/PrecedenceTraversal" := (Exa.ext E157 (Exa.wr W154 c156))
  refine Go.putF (pc' := 197) (host := "") (ty := (.array .int)) C X157 (Or.inl (hw _ (List.mem_of_getElem? (i := 51) rfl))) Via.refl e157 c160 c161 (Or.inr ⟨(hw _ (List.mem_of_getElem? (i := 52) rfl)), rfl, rfl⟩) (hw _ (List.mem_of_getElem? (i := 18) rfl)) (by decide) rfl rfl d3_194 rfl ?_
  intro T159 h159 X159 e159 W159 F159
  have N159 := Fr.snoc X159 N154 hn
  refine Go.aloadN (pc' := 198) C X159 d3_197 rfl rfl rfl ?_
  refine Go.aloadN (pc' := 199) C X159 d3_198 rfl rfl rfl ?_
  have c163 : Fld Z h159 r "com/example/opacheck/opacheck/PrecedenceTraversal" "members" "[I" (.ref b_105) := (Fld.other W159 (Fld.ext E157 (Fld.other W154 (Fld.ext E152 (Fld.ext E146 (Fld.other W144 (Fld.ext E141 (Fld.other W136 (Fld.ext E133 (Fld.other W127 (Fld.ext E123 (Fld.other W116 (Fld.ext E114 (Fld.ext E109 F106)) (Or.inr (slot_ne (Or.inr (hw _ (List.mem_of_getElem? (i := 41) rfl))) (Or.inr (hw _ (List.mem_of_getElem? (i := 47) rfl))) (by decide) (t := (.array .int)) (t' := (.array (.array .int))) (by decide) (by decide))))) (Or.inl (Ne.symm ne125)))) (Or.inl (Ne.symm ne125)))) (Or.inl (Ne.symm ne125))))) (Or.inr (slot_ne (Or.inr (hw _ (List.mem_of_getElem? (i := 41) rfl))) (Or.inr (hw _ (List.mem_of_getElem? (i := 50) rfl))) (by decide) (t := (.array .int)) (t' := (.array .int)) (by decide) (by decide))))) (Or.inr (slot_ne (Or.inr (hw _ (List.mem_of_getElem? (i := 41) rfl))) (Or.inr (hw _ (List.mem_of_getElem? (i := 52) rfl))) (by decide) (t := (.array .int)) (t' := (.array .int)) (by decide) (by decide))))
  refine Go.getF (pc' := 202) (host := "") C X159 (Or.inl (hw _ (List.mem_of_getElem? (i := 40) rfl))) Via.refl e159 c163 d3_199 rfl ?_
  intro T162 X162 e162
  have ne164 : b_105 ≠ r := (Nat.ne_of_gt (Nat.lt_of_lt_of_le E0.lt (Nat.le_trans (Nat.le_refl _) B105_0)))
  have ne165 : b_105 ≠ b114 := Nat.ne_of_lt (Nat.lt_of_lt_of_le P105_0.lt (Nat.le_trans (Nat.le_trans (Nat.le_trans (Nat.le_refl _) (Nat.le_of_eq W106.size.symm)) E109.1) (Nat.le_of_eq g114.symm)))
  have c166 : AL Z h159 b_105 kb_105 .int [] := (AL.other W159 (AL.ext E157 (AL.other W154 (AL.ext E152 (AL.ext E146 (AL.other W144 (AL.ext E141 (AL.other W136 (AL.ext E133 (AL.other W127 (AL.ext E123 (AL.other W116 (AL.ext E114 (AL.ext E109 (AL.other W106 P105_0 ne164))) ne164)) ne165)) ne165)) ne165))) ne164)) ne164)
  refine Go.alen (z := (0 : Int32)) (pc' := 203) C X162 e162 c166 rfl d3_202 rfl ?_
  refine Go.iconst (z := (1 : Int32)) (pc' := 204) C X162 d3_203 rfl rfl ?_
  refine Go.iadd (pc' := 205) C X162 d3_204 rfl ?_
  rw [show ((0 : Int32) + (1 : Int32)) = (1 : Int32) from by decide]
  have O168 : Ext Z.heap h159 := (Ext.wr (Ext.trans O158 E157) W159 hn)
  refine Go.newP (aty := .int) (cap := 1) (vs := [(.int (0 : Int32))]) (ad := "[I") (pc' := 207) C X162 (by decide) (hw _ (List.mem_of_getElem? (i := 10) rfl)) e162 (by decide) (by decide) (by decide) (by decide) (by decide) rfl d3_205 rfl ?_
  intro T167 h167 b167 k167 X167 e167 g167 E167 A167 Ea167
  have n_b167 : Z.heap.size ≤ b167 := Nat.le_trans O168.1 (Nat.le_of_eq g167.symm)
  have z_b167 : h0.size ≤ b167 := Nat.le_trans (Nat.le_trans (Nat.le_trans (Nat.le_trans (Nat.le_trans (Nat.le_trans (Nat.le_trans (Nat.le_trans (Nat.le_trans (Nat.le_trans (Nat.le_trans (Nat.le_trans (Nat.le_trans (Nat.le_trans (Nat.le_trans (Nat.le_trans (Nat.le_trans (Nat.le_refl _) K105.1) (Nat.le_of_eq W106.size.symm)) E109.1) E114.1) (Nat.le_of_eq W116.size.symm)) E123.1) (Nat.le_of_eq W127.size.symm)) E133.1) (Nat.le_of_eq W136.size.symm)) E141.1) (Nat.le_of_eq W144.size.symm)) E146.1) E152.1) (Nat.le_of_eq W154.size.symm)) E157.1) (Nat.le_of_eq W159.size.symm)) (Nat.le_of_eq g167.symm)
  have A167 : AL Z h167 b167 k167 .int [(.int (0 : Int32))] := A167
  have c170 : Fld Z h167 r "com/example/opacheck/opacheck/PrecedenceTraversal" "links" "[I" .null := (Fld.ext E167 (Fld.other W159 (Fld.ext E157 (Fld.other W154 (Fld.ext E152 (Fld.ext E146 (Fld.other W144 (Fld.ext E141 (Fld.other W136 (Fld.ext E133 (Fld.other W127 (Fld.ext E123 (Fld.other W116 (Fld.ext E114 (Fld.ext E109 (Fld.other W106 (Fld.keep Flinks K105 nin0) (Or.inr (slot_ne (Or.inr (hw _ (List.mem_of_getElem? (i := 54) rfl))) (Or.inr (hw _ (List.mem_of_getElem? (i := 41) rfl))) (by decide) (t := (.array .int)) (t' := (.array .int)) (by decide) (by decide)))))) (Or.inr (slot_ne (Or.inr (hw _ (List.mem_of_getElem? (i := 54) rfl))) (Or.inr (hw _ (List.mem_of_getElem? (i := 47) rfl))) (by decide) (t := (.array .int)) (t' := (.array (.array .int))) (by decide) (by decide))))) (Or.inl (Ne.symm ne125)))) (Or.inl (Ne.symm ne125)))) (Or.inl (Ne.symm ne125))))) (Or.inr (slot_ne (Or.inr (hw _ (List.mem_of_getElem? (i := 54) rfl))) (Or.inr (hw _ (List.mem_of_getElem? (i := 50) rfl))) (by decide) (t := (.array .int)) (t' := (.array .int)) (by decide) (by decide))))) (Or.inr (slot_ne (Or.inr (hw _ (List.mem_of_getElem? (i := 54) rfl))) (Or.inr (hw _ (List.mem_of_getElem? (i := 52) rfl))) (by decide) (t := (.array .int)) (t' := (.array .int)) (by decide) (by decide)))))
  have c171 : Exa Z h167 r "com/example/opacheck/opacheck/PrecedenceTraversal" := (Exa.ext E167 (Exa.wr W159 c161))
  refine Go.putF (pc' := 210) (host := "") (ty := (.array .int)) C X167 (Or.inl (hw _ (List.mem_of_getElem? (i := 53) rfl))) Via.refl e167 c170 c171 (Or.inr ⟨(hw _ (List.mem_of_getElem? (i := 54) rfl)), rfl, rfl⟩) (hw _ (List.mem_of_getElem? (i := 18) rfl)) (by decide) rfl rfl d3_207 rfl ?_
  intro T169 h169 X169 e169 W169 F169
  have N169 := Fr.snoc X169 N159 hn
  refine Go.aloadN (pc' := 211) C X169 d3_210 rfl rfl rfl ?_
  refine Go.aloadN (pc' := 212) C X169 d3_211 rfl rfl rfl ?_
  have c173 : Fld Z h169 r "com/example/opacheck/opacheck/PrecedenceTraversal" "members" "[I" (.ref b_105) := (Fld.other W169 (Fld.ext E167 c163) (Or.inr (slot_ne (Or.inr (hw _ (List.mem_of_getElem? (i := 41) rfl))) (Or.inr (hw _ (List.mem_of_getElem? (i := 54) rfl))) (by decide) (t := (.array .int)) (t' := (.array .int)) (by decide) (by decide))))
  refine Go.getF (pc' := 215) (host := "") C X169 (Or.inl (hw _ (List.mem_of_getElem? (i := 40) rfl))) Via.refl e169 c173 d3_212 rfl ?_
  intro T172 X172 e172
  have c174 : AL Z h169 b_105 kb_105 .int [] := (AL.other W169 (AL.ext E167 c166) ne164)
  refine Go.alen (z := (0 : Int32)) (pc' := 216) C X172 e172 c174 rfl d3_215 rfl ?_
  refine Go.iconst (z := (1 : Int32)) (pc' := 217) C X172 d3_216 rfl rfl ?_
  refine Go.iadd (pc' := 218) C X172 d3_217 rfl ?_
  rw [show ((0 : Int32) + (1 : Int32)) = (1 : Int32) from by decide]
  have O176 : Ext Z.heap h169 := (Ext.wr (Ext.trans O168 E167) W169 hn)
  refine Go.newP (aty := .int) (cap := 1) (vs := [(.int (0 : Int32))]) (ad := "[I") (pc' := 220) C X172 (by decide) (hw _ (List.mem_of_getElem? (i := 10) rfl)) e172 (by decide) (by decide) (by decide) (by decide) (by decide) rfl d3_218 rfl ?_
  intro T175 h175 b175 k175 X175 e175 g175 E175 A175 Ea175
  have n_b175 : Z.heap.size ≤ b175 := Nat.le_trans O176.1 (Nat.le_of_eq g175.symm)
  have z_b175 : h0.size ≤ b175 := Nat.le_trans (Nat.le_trans (Nat.le_trans (Nat.le_trans (Nat.le_trans (Nat.le_trans (Nat.le_trans (Nat.le_trans (Nat.le_trans (Nat.le_trans (Nat.le_trans (Nat.le_trans (Nat.le_trans (Nat.le_trans (Nat.le_trans (Nat.le_trans (Nat.le_trans (Nat.le_trans (Nat.le_trans (Nat.le_refl _) K105.1) (Nat.le_of_eq W106.size.symm)) E109.1) E114.1) (Nat.le_of_eq W116.size.symm)) E123.1) (Nat.le_of_eq W127.size.symm)) E133.1) (Nat.le_of_eq W136.size.symm)) E141.1) (Nat.le_of_eq W144.size.symm)) E146.1) E152.1) (Nat.le_of_eq W154.size.symm)) E157.1) (Nat.le_of_eq W159.size.symm)) E167.1) (Nat.le_of_eq W169.size.symm)) (Nat.le_of_eq g175.symm)
  have A175 : AL Z h175 b175 k175 .int [(.int (0 : Int32))] := A175
  have c178 : Fld Z h175 r "com/example/opacheck/opacheck/PrecedenceTraversal" "linkedIn" "[I" .null := (Fld.ext E175 (Fld.other W169 (Fld.ext E167 (Fld.other W159 (Fld.ext E157 (Fld.other W154 (Fld.ext E152 (Fld.ext E146 (Fld.other W144 (Fld.ext E141 (Fld.other W136 (Fld.ext E133 (Fld.other W127 (Fld.ext E123 (Fld.other W116 (Fld.ext E114 (Fld.ext E109 (Fld.other W106 (Fld.keep FlinkedIn K105 nin0) (Or.inr (slot_ne (Or.inr (hw _ (List.mem_of_getElem? (i := 56) rfl))) (Or.inr (hw _ (List.mem_of_getElem? (i := 41) rfl))) (by decide) (t := (.array .int)) (t' := (.array .int)) (by decide) (by decide)))))) (Or.inr (slot_ne (Or.inr (hw _ (List.mem_of_getElem? (i := 56) rfl))) (Or.inr (hw _ (List.mem_of_getElem? (i := 47) rfl))) (by decide) (t := (.array .int)) (t' := (.array (.array .int))) (by decide) (by decide))))) (Or.inl (Ne.symm ne125)))) (Or.inl (Ne.symm ne125)))) (Or.inl (Ne.symm ne125))))) (Or.inr (slot_ne (Or.inr (hw _ (List.mem_of_getElem? (i := 56) rfl))) (Or.inr (hw _ (List.mem_of_getElem? (i := 50) rfl))) (by decide) (t := (.array .int)) (t' := (.array .int)) (by decide) (by decide))))) (Or.inr (slot_ne (Or.inr (hw _ (List.mem_of_getElem? (i := 56) rfl))) (Or.inr (hw _ (List.mem_of_getElem? (i := 52) rfl))) (by decide) (t := (.array .int)) (t' := (.array .int)) (by decide) (by decide))))) (Or.inr (slot_ne (Or.inr (hw _ (List.mem_of_getElem? (i := 56) rfl))) (Or.inr (hw _ (List.mem_of_getElem? (i := 54) rfl))) (by decide) (t := (.array .int)) (t' := (.array .int)) (by decide) (by decide)))))
  have c179 : Exa Z h175 r "com/example/opacheck/opacheck/PrecedenceTraversal" := (Exa.ext E175 (Exa.wr W169 c171))
  refine Go.putF (pc' := 223) (host := "") (ty := (.array .int)) C X175 (Or.inl (hw _ (List.mem_of_getElem? (i := 55) rfl))) Via.refl e175 c178 c179 (Or.inr ⟨(hw _ (List.mem_of_getElem? (i := 56) rfl)), rfl, rfl⟩) (hw _ (List.mem_of_getElem? (i := 18) rfl)) (by decide) rfl rfl d3_220 rfl ?_
  intro T177 h177 X177 e177 W177 F177
  have N177 := Fr.snoc X177 N169 hn
  refine Go.aloadN (pc' := 224) C X177 d3_223 rfl rfl rfl ?_
  refine Go.iloadN (pc' := 225) C X177 d3_224 rfl rfl ?_
  have O181 : Ext Z.heap h177 := (Ext.wr (Ext.trans O176 E175) W177 hn)
  refine Go.newP (aty := .int) (cap := 3) (vs := [(.int (0 : Int32)), (.int (0 : Int32)), (.int (0 : Int32))]) (ad := "[I") (pc' := 227) C X177 (by decide) (hw _ (List.mem_of_getElem? (i := 10) rfl)) e177 (by decide) (by decide) (by decide) (by decide) (by decide) rfl d3_225 rfl ?_
  intro T180 h180 b180 k180 X180 e180 g180 E180 A180 Ea180
  have n_b180 : Z.heap.size ≤ b180 := Nat.le_trans O181.1 (Nat.le_of_eq g180.symm)
  have z_b180 : h0.size ≤ b180 := Nat.le_trans (Nat.le_trans (Nat.le_trans (Nat.le_trans (Nat.le_trans (Nat.le_trans (Nat.le_trans (Nat.le_trans (Nat.le_trans (Nat.le_trans (Nat.le_trans (Nat.le_trans (Nat.le_trans (Nat.le_trans (Nat.le_trans (Nat.le_trans (Nat.le_trans (Nat.le_trans (Nat.le_trans (Nat.le_trans (Nat.le_trans (Nat.le_refl _) K105.1) (Nat.le_of_eq W106.size.symm)) E109.1) E114.1) (Nat.le_of_eq W116.size.symm)) E123.1) (Nat.le_of_eq W127.size.symm)) E133.1) (Nat.le_of_eq W136.size.symm)) E141.1) (Nat.le_of_eq W144.size.symm)) E146.1) E152.1) (Nat.le_of_eq W154.size.symm)) E157.1) (Nat.le_of_eq W159.size.symm)) E167.1) (Nat.le_of_eq W169.size.symm)) E175.1) (Nat.le_of_eq W177.size.symm)) (Nat.le_of_eq g180.symm)
  have A180 : AL Z h180 b180 k180 .int [(.int (0 : Int32)), (.int (0 : Int32)), (.int (0 : Int32))] := A180
  have c183 : Fld Z h180 r "com/example/opacheck/opacheck/PrecedenceTraversal" "path" "[I" .null := (Fld.ext E180 (Fld.other W177 (Fld.ext E175 (Fld.other W169 (Fld.ext E167 (Fld.other W159 (Fld.ext E157 (Fld.other W154 (Fld.ext E152 (Fld.ext E146 (Fld.other W144 (Fld.ext E141 (Fld.other W136 (Fld.ext E133 (Fld.other W127 (Fld.ext E123 (Fld.other W116 (Fld.ext E114 (Fld.ext E109 (Fld.other W106 (Fld.keep Fpath K105 nin0) (Or.inr (slot_ne (Or.inr (hw _ (List.mem_of_getElem? (i := 58) rfl))) (Or.inr (hw _ (List.mem_of_getElem? (i := 41) rfl))) (by decide) (t := (.array .int)) (t' := (.array .int)) (by decide) (by decide)))))) (Or.inr (slot_ne (Or.inr (hw _ (List.mem_of_getElem? (i := 58) rfl))) (Or.inr (hw _ (List.mem_of_getElem? (i := 47) rfl))) (by decide) (t := (.array .int)) (t' := (.array (.array .int))) (by decide) (by decide))))) (Or.inl (Ne.symm ne125)))) (Or.inl (Ne.symm ne125)))) (Or.inl (Ne.symm ne125))))) (Or.inr (slot_ne (Or.inr (hw _ (List.mem_of_getElem? (i := 58) rfl))) (Or.inr (hw _ (List.mem_of_getElem? (i := 50) rfl))) (by decide) (t := (.array .int)) (t' := (.array .int)) (by decide) (by decide))))) (Or.inr (slot_ne (Or.inr (hw _ (List.mem_of_getElem? (i := 58) rfl))) (Or.inr (hw _ (List.mem_of_getElem? (i := 52) rfl))) (by decide) (t := (.array .int)) (t' := (.array .int)) (by decide) (by decide))))) (Or.inr (slot_ne (Or.inr (hw _ (List.mem_of_getElem? (i := 58) rfl))) (Or.inr (hw _ (List.mem_of_getElem? (i := 54) rfl))) (by decide) (t := (.array .int)) (t' := (.array .int)) (by decide) (by decide))))) (Or.inr (slot_ne (Or.inr (hw _ (List.mem_of_getElem? (i := 58) rfl))) (Or.inr (hw _ (List.mem_of_getElem? (i := 56) rfl))) (by decide) (t := (.array .int)) (t' := (.array .int)) (by decide) (by decide)))))
  have c184 : Exa Z h180 r "com/example/opacheck/opacheck/PrecedenceTraversal" := (Exa.ext E180 (Exa.wr W177 c179))
  refine Go.putF (pc' := 230) (host := "") (ty := (.array .int)) C X180 (Or.inl (hw _ (List.mem_of_getElem? (i := 57) rfl))) Via.refl e180 c183 c184 (Or.inr ⟨(hw _ (List.mem_of_getElem? (i := 58) rfl)), rfl, rfl⟩) (hw _ (List.mem_of_getElem? (i := 18) rfl)) (by decide) rfl rfl d3_227 rfl ?_
  intro T182 h182 X182 e182 W182 F182
  have N182 := Fr.snoc X182 N177 hn
  have K185 : Keep h0 h182 [r] := (((((((((((((((((((((((Keep.refl h0 [r]).trans K105 all0).wr W106 (Or.inl (by simp))).ext E109).ext E114).wr W116 (Or.inl (by simp))).ext E123).wr W127 (Or.inr z_b114)).ext E133).wr W136 (Or.inr z_b114)).ext E141).wr W144 (Or.inr z_b114)).ext E146).ext E152).wr W154 (Or.inl (by simp))).ext E157).wr W159 (Or.inl (by simp))).ext E167).wr W169 (Or.inl (by simp))).ext E175).wr W177 (Or.inl (by simp))).ext E180).wr W182 (Or.inl (by simp)))
  have c186 : Fld Z h182 r "com/example/opacheck/opacheck/PrecedenceTraversal" "visitedIn" "[I" (.ref b152) := (Fld.other W182 (Fld.ext E180 (Fld.other W177 (Fld.ext E175 (Fld.other W169 (Fld.ext E167 (Fld.other W159 (Fld.ext E157 F154) (Or.inr (slot_ne (Or.inr (hw _ (List.mem_of_getElem? (i := 50) rfl))) (Or.inr (hw _ (List.mem_of_getElem? (i := 52) rfl))) (by decide) (t := (.array .int)) (t' := (.array .int)) (by decide) (by decide))))) (Or.inr (slot_ne (Or.inr (hw _ (List.mem_of_getElem? (i := 50) rfl))) (Or.inr (hw _ (List.mem_of_getElem? (i := 54) rfl))) (by decide) (t := (.array .int)) (t' := (.array .int)) (by decide) (by decide))))) (Or.inr (slot_ne (Or.inr (hw _ (List.mem_of_getElem? (i := 50) rfl))) (Or.inr (hw _ (List.mem_of_getElem? (i := 56) rfl))) (by decide) (t := (.array .int)) (t' := (.array .int)) (by decide) (by decide))))) (Or.inr (slot_ne (Or.inr (hw _ (List.mem_of_getElem? (i := 50) rfl))) (Or.inr (hw _ (List.mem_of_getElem? (i := 58) rfl))) (by decide) (t := (.array .int)) (t' := (.array .int)) (by decide) (by decide))))
  have ne187 : b152 ≠ r := (Nat.ne_of_gt (Nat.lt_of_lt_of_le E0.lt (Nat.le_trans (Nat.le_trans (Nat.le_trans (Nat.le_trans (Nat.le_trans (Nat.le_trans (Nat.le_trans (Nat.le_trans (Nat.le_trans (Nat.le_trans (Nat.le_trans (Nat.le_trans (Nat.le_trans (Nat.le_refl _) K105.1) (Nat.le_of_eq W106.size.symm)) E109.1) E114.1) (Nat.le_of_eq W116.size.symm)) E123.1) (Nat.le_of_eq W127.size.symm)) E133.1) (Nat.le_of_eq W136.size.symm)) E141.1) (Nat.le_of_eq W144.size.symm)) E146.1) (Nat.le_of_eq g152.symm))))
  have c188 : AL Z h182 b152 k152 .int [(.int (0 : Int32)), (.int (0 : Int32)), (.int (0 : Int32))] := (AL.other W182 (AL.ext E180 (AL.other W177 (AL.ext E175 (AL.other W169 (AL.ext E167 (AL.other W159 (AL.ext E157 (AL.other W154 A152 ne187)) ne187)) ne187)) ne187)) ne187)
  have c189 : Fld Z h182 r "com/example/opacheck/opacheck/PrecedenceTraversal" "positions" "[I" (.ref b157) := (Fld.other W182 (Fld.ext E180 (Fld.other W177 (Fld.ext E175 (Fld.other W169 (Fld.ext E167 F159) (Or.inr (slot_ne (Or.inr (hw _ (List.mem_of_getElem? (i := 52) rfl))) (Or.inr (hw _ (List.mem_of_getElem? (i := 54) rfl))) (by decide) (t := (.array .int)) (t' := (.array .int)) (by decide) (by decide))))) (Or.inr (slot_ne (Or.inr (hw _ (List.mem_of_getElem? (i := 52) rfl))) (Or.inr (hw _ (List.mem_of_getElem? (i := 56) rfl))) (by decide) (t := (.array .int)) (t' := (.array .int)) (by decide) (by decide))))) (Or.inr (slot_ne (Or.inr (hw _ (List.mem_of_getElem? (i := 52) rfl))) (Or.inr (hw _ (List.mem_of_getElem? (i := 58) rfl))) (by decide) (t := (.array .int)) (t' := (.array .int)) (by decide) (by decide))))
  have ne190 : b157 ≠ r := (Nat.ne_of_gt (Nat.lt_of_lt_of_le E0.lt (Nat.le_trans (Nat.le_trans (Nat.le_trans (Nat.le_trans (Nat.le_trans (Nat.le_trans (Nat.le_trans (Nat.le_trans (Nat.le_trans (Nat.le_trans (Nat.le_trans (Nat.le_trans (Nat.le_trans (Nat.le_trans (Nat.le_trans (Nat.le_refl _) K105.1) (Nat.le_of_eq W106.size.symm)) E109.1) E114.1) (Nat.le_of_eq W116.size.symm)) E123.1) (Nat.le_of_eq W127.size.symm)) E133.1) (Nat.le_of_eq W136.size.symm)) E141.1) (Nat.le_of_eq W144.size.symm)) E146.1) E152.1) (Nat.le_of_eq W154.size.symm)) (Nat.le_of_eq g157.symm))))
  have c191 : AL Z h182 b157 k157 .int [(.int (0 : Int32)), (.int (0 : Int32)), (.int (0 : Int32))] := (AL.other W182 (AL.ext E180 (AL.other W177 (AL.ext E175 (AL.other W169 (AL.ext E167 (AL.other W159 A157 ne190)) ne190)) ne190)) ne190)
  have c192 : Fld Z h182 r "com/example/opacheck/opacheck/PrecedenceTraversal" "number" "I" (.int (0 : Int32)) := (Fld.other W182 (Fld.ext E180 (Fld.other W177 (Fld.ext E175 (Fld.other W169 (Fld.ext E167 (Fld.other W159 (Fld.ext E157 (Fld.other W154 (Fld.ext E152 (Fld.ext E146 (Fld.other W144 (Fld.ext E141 (Fld.other W136 (Fld.ext E133 (Fld.other W127 (Fld.ext E123 (Fld.other W116 (Fld.ext E114 (Fld.ext E109 (Fld.other W106 (Fld.keep Fnum K105 nin0) (Or.inr (slot_ne (Or.inl (hw _ (List.mem_of_getElem? (i := 65) rfl))) (Or.inr (hw _ (List.mem_of_getElem? (i := 41) rfl))) (by decide) (t := .int) (t' := (.array .int)) (by decide) (by decide)))))) (Or.inr (slot_ne (Or.inl (hw _ (List.mem_of_getElem? (i := 65) rfl))) (Or.inr (hw _ (List.mem_of_getElem? (i := 47) rfl))) (by decide) (t := .int) (t' := (.array (.array .int))) (by decide) (by decide))))) (Or.inl (Ne.symm ne125)))) (Or.inl (Ne.symm ne125)))) (Or.inl (Ne.symm ne125))))) (Or.inr (slot_ne (Or.inl (hw _ (List.mem_of_getElem? (i := 65) rfl))) (Or.inr (hw _ (List.mem_of_getElem? (i := 50) rfl))) (by decide) (t := .int) (t' := (.array .int)) (by decide) (by decide))))) (Or.inr (slot_ne (Or.inl (hw _ (List.mem_of_getElem? (i := 65) rfl))) (Or.inr (hw _ (List.mem_of_getElem? (i := 52) rfl))) (by decide) (t := .int) (t' := (.array .int)) (by decide) (by decide))))) (Or.inr (slot_ne (Or.inl (hw _ (List.mem_of_getElem? (i := 65) rfl))) (Or.inr (hw _ (List.mem_of_getElem? (i := 54) rfl))) (by decide) (t := .int) (t' := (.array .int)) (by decide) (by decide))))) (Or.inr (slot_ne (Or.inl (hw _ (List.mem_of_getElem? (i := 65) rfl))) (Or.inr (hw _ (List.mem_of_getElem? (i := 56) rfl))) (by decide) (t := .int) (t' := (.array .int)) (by decide) (by decide))))) (Or.inr (slot_ne (Or.inl (hw _ (List.mem_of_getElem? (i := 65) rfl))) (Or.inr (hw _ (List.mem_of_getElem? (i := 58) rfl))) (by decide) (t := .int) (t' := (.array .int)) (by decide) (by decide))))
  have c193 : Fld Z h182 r "com/example/opacheck/opacheck/PrecedenceTraversal" "scope" "Ljava/util/function/IntPredicate;" .null := (Fld.other W182 (Fld.ext E180 (Fld.other W177 (Fld.ext E175 (Fld.other W169 (Fld.ext E167 (Fld.other W159 (Fld.ext E157 (Fld.other W154 (Fld.ext E152 (Fld.ext E146 (Fld.other W144 (Fld.ext E141 (Fld.other W136 (Fld.ext E133 (Fld.other W127 (Fld.ext E123 (Fld.other W116 (Fld.ext E114 (Fld.ext E109 (Fld.other W106 (Fld.keep Fsc K105 nin0) (Or.inr (slot_ne (Or.inl (hw _ (List.mem_of_getElem? (i := 67) rfl))) (Or.inr (hw _ (List.mem_of_getElem? (i := 41) rfl))) (by decide) (t := (.object "java/util/function/IntPredicate")) (t' := (.array .int)) (by decide) (by decide)))))) (Or.inr (slot_ne (Or.inl (hw _ (List.mem_of_getElem? (i := 67) rfl))) (Or.inr (hw _ (List.mem_of_getElem? (i := 47) rfl))) (by decide) (t := (.object "java/util/function/IntPredicate")) (t' := (.array (.array .int))) (by decide) (by decide))))) (Or.inl (Ne.symm ne125)))) (Or.inl (Ne.symm ne125)))) (Or.inl (Ne.symm ne125))))) (Or.inr (slot_ne (Or.inl (hw _ (List.mem_of_getElem? (i := 67) rfl))) (Or.inr (hw _ (List.mem_of_getElem? (i := 50) rfl))) (by decide) (t := (.object "java/util/function/IntPredicate")) (t' := (.array .int)) (by decide) (by decide))))) (Or.inr (slot_ne (Or.inl (hw _ (List.mem_of_getElem? (i := 67) rfl))) (Or.inr (hw _ (List.mem_of_getElem? (i := 52) rfl))) (by decide) (t := (.object "java/util/function/IntPredicate")) (t' := (.array .int)) (by decide) (by decide))))) (Or.inr (slot_ne (Or.inl (hw _ (List.mem_of_getElem? (i := 67) rfl))) (Or.inr (hw _ (List.mem_of_getElem? (i := 54) rfl))) (by decide) (t := (.object "java/util/function/IntPredicate")) (t' := (.array .int)) (by decide) (by decide))))) (Or.inr (slot_ne (Or.inl (hw _ (List.mem_of_getElem? (i := 67) rfl))) (Or.inr (hw _ (List.mem_of_getElem? (i := 56) rfl))) (by decide) (t := (.object "java/util/function/IntPredicate")) (t' := (.array .int)) (by decide) (by decide))))) (Or.inr (slot_ne (Or.inl (hw _ (List.mem_of_getElem? (i := 67) rfl))) (Or.inr (hw _ (List.mem_of_getElem? (i := 58) rfl))) (by decide) (t := (.object "java/util/function/IntPredicate")) (t' := (.array .int)) (by decide) (by decide))))
  have ne194 : b152 ≠ b157 := Nat.ne_of_lt (Nat.lt_of_lt_of_le A152.lt (Nat.le_trans (Nat.le_trans (Nat.le_refl _) (Nat.le_of_eq W154.size.symm)) (Nat.le_of_eq g157.symm)))
  exact Go.retV C X182 rfl d3_230 (by rw [e182]; exact ⟨b152, k152, b157, k157, rfl, N182, K185, z_b152, z_b157, c186, c188, c189, c191, c192, c193, ne194⟩) (by decide) (by decide)
def Q_ct4 (Z : State) (r : Addr) (q : Addr) (v : Addr) (k : ClassId) (h0 : Heap) (rv : Option Value) (h : Heap) (L : List Loc) : Prop := ∃ vi : Addr, ∃ ki : ClassId, ∃ vp : Addr, ∃ kp : ClassId, rv = none ∧ Fr Z.heap.size L ∧ Keep h0 h [r] ∧ h0.size ≤ vi ∧ h0.size ≤ vp ∧ Fld Z h r "com/example/opacheck/opacheck/PrecedenceTraversal" "visitedIn" "[I" (.ref vi) ∧ AL Z h vi ki .int [(.int (0 : Int32)), (.int (0 : Int32)), (.int (0 : Int32)), (.int (0 : Int32))] ∧ Fld Z h r "com/example/opacheck/opacheck/PrecedenceTraversal" "positions" "[I" (.ref vp) ∧ AL Z h vp kp .int [(.int (0 : Int32)), (.int (0 : Int32)), (.int (0 : Int32)), (.int (0 : Int32))] ∧ Fld Z h r "com/example/opacheck/opacheck/PrecedenceTraversal" "number" "I" (.int (0 : Int32)) ∧ Fld Z h r "com/example/opacheck/opacheck/PrecedenceTraversal" "scope" "Ljava/util/function/IntPredicate;" .null ∧ vi ≠ vp
set_option maxRecDepth 65536 in
set_option maxHeartbeats 40000000 in
theorem rm_ct4 (l : Launch) (Z : State) (a0 : Array Value) (hw : ∀ d ∈ tables_1, d.before a0 Z = true) (r : Addr) (q : Addr) (v : Addr) (k : ClassId) (h0 : Heap) (O0 : Ext Z.heap h0) (E0 : Exa Z h0 r "com/example/opacheck/opacheck/PrecedenceTraversal") (Fmembers : Fld Z h0 r "com/example/opacheck/opacheck/PrecedenceTraversal" "members" "[I" .null) (Franges : Fld Z h0 r "com/example/opacheck/opacheck/PrecedenceTraversal" "ranges" "[[I" .null) (FvisitedIn : Fld Z h0 r "com/example/opacheck/opacheck/PrecedenceTraversal" "visitedIn" "[I" .null) (Fpositions : Fld Z h0 r "com/example/opacheck/opacheck/PrecedenceTraversal" "positions" "[I" .null) (Flinks : Fld Z h0 r "com/example/opacheck/opacheck/PrecedenceTraversal" "links" "[I" .null) (FlinkedIn : Fld Z h0 r "com/example/opacheck/opacheck/PrecedenceTraversal" "linkedIn" "[I" .null) (Fpath : Fld Z h0 r "com/example/opacheck/opacheck/PrecedenceTraversal" "path" "[I" .null) (Fnum : Fld Z h0 r "com/example/opacheck/opacheck/PrecedenceTraversal" "number" "I" (.int (0 : Int32))) (Fsc : Fld Z h0 r "com/example/opacheck/opacheck/PrecedenceTraversal" "scope" "Ljava/util/function/IntPredicate;" .null) (Gm : Fld Z h0 q "com/example/opacheck/opacheck/PrecedenceTraversal$Neighbours" "members" "[I" (.ref v)) (Am : AL Z h0 v k .int [(.int (0 : Int32)), (.int (0 : Int32)), (.int (0 : Int32)), (.int (0 : Int32)), (.int (0 : Int32)), (.int (0 : Int32)), (.int (0 : Int32)), (.int (0 : Int32)), (.int (0 : Int32)), (.int (0 : Int32)), (.int (0 : Int32)), (.int (0 : Int32)), (.int (0 : Int32)), (.int (0 : Int32)), (.int (0 : Int32)), (.int (0 : Int32))]) (Gs : Fld Z h0 q "com/example/opacheck/opacheck/PrecedenceTraversal$Neighbours" "size" "I" (.int (0 : Int32))) (Gr : Fld Z h0 q "com/example/opacheck/opacheck/PrecedenceTraversal$Neighbours" "rangesSize" "I" (.int (0 : Int32))) (Gc : Fld Z h0 q "com/example/opacheck/opacheck/PrecedenceTraversal$Neighbours" "count" "I" (.int (4 : Int32))) (hn : Z.heap.size ≤ r) (hne : r ≠ q) (hnv : r ≠ v) :
    Met1 l Z (⟨"com/example/opacheck/opacheck/PrecedenceTraversal", "<init>", "(Lcom/example/opacheck/opacheck/PrecedenceTraversal$Neighbours;)V"⟩ : MethodName) prog_45_method_2_code 7 none ({ frames := 2, cells := 17, slots := 50, locals := 33 } : Room) #[(.ref r), (.ref q)] h0 (Q_ct4 Z r q v k h0) := by
  refine Met1.of_body (Ls := #[.val (.ref r), .val (.ref q), .unset, .unset, .unset, .unset, .unset]) pf_3 (fun m => by first | (simp [entryFrame, mkF, argsToLocals, Value.category]; done) | rfl) ?_
  intro p e s m below meth c T0 C X0 e0
  have N0 : Fr Z.heap.size [] := Fr.nil _
  refine Go.aloadN (pc' := 1) C X0 d3_0 rfl rfl rfl ?_
  refine Go.initO (pc' := 4) (W := 0) C X0 (hw _ (List.mem_of_getElem? (i := 23) rfl)) (hw _ (List.mem_of_getElem? (i := 8) rfl)) (hw _ (List.mem_of_getElem? (i := 9) rfl)) e0 rfl (by decide) (Nat.le_of_eq rfl) (by decide) d3_1 rfl ?_
  intro T101 X101 e101
  refine Go.aloadN (pc' := 5) C X101 d3_4 rfl rfl rfl ?_
  refine Go.getFR (pc' := 8) C X101 (hw _ (List.mem_of_getElem? (i := 24) rfl)) e101 Gc d3_5 rfl ?_
  refine Go.istoreN (Ls' := #[.val (.ref r), .val (.ref q), .val (.int (4 : Int32)), .unset, .unset, .unset, .unset]) (pc' := 9) C X101 d3_8 rfl rfl ?_
  refine Go.aloadN (pc' := 10) C X101 d3_9 rfl rfl rfl ?_
  refine Go.aloadN (pc' := 11) C X101 d3_10 rfl rfl rfl ?_
  refine Go.getFR (pc' := 14) C X101 (hw _ (List.mem_of_getElem? (i := 25) rfl)) e101 Gm d3_11 rfl ?_
  refine Go.aloadN (pc' := 15) C X101 d3_14 rfl rfl rfl ?_
  refine Go.getFR (pc' := 18) C X101 (hw _ (List.mem_of_getElem? (i := 26) rfl)) e101 Gs d3_15 rfl ?_
  refine Go.callS (y := (⟨"java/util/Arrays", "copyOf", "([II)[I"⟩ : MethodName)) (pc' := 21) C X101 (hw _ (List.mem_of_getElem? (i := 28) rfl)) (hw _ (List.mem_of_getElem? (i := 29) rfl)) (by decide) (rm_cpy l Z a0 hw v k h0 O0 Am) (hw _ (List.mem_of_getElem? (i := 31) rfl)) (hw _ (List.mem_of_getElem? (i := 30) rfl)) e101 (argsL := [(.ref v), (.int (0 : Int32))]) (rest := [(.ref r)]) (W := 1) rfl rfl pd_1 rfl (Nat.le_of_eq rfl) rfl (by decide) (by decide) (by decide) (by decide) d3_18 rfl ?_
  intro T105 v105 L105 X105 q105
  obtain ⟨b_105, kb_105, rfl, N105q, K105, B105_0, P105_0⟩ := q105
  have N105 := Fr.app N0 N105q
  have n_b_105 : Z.heap.size ≤ b_105 := Nat.le_trans O0.1 B105_0
  have z_b_105 : h0.size ≤ b_105 := Nat.le_trans (Nat.le_refl _) B105_0
  have c107 : Fld Z T105.heap r "com/example/opacheck/opacheck/PrecedenceTraversal" "members" "[I" .null := (Fld.keep Fmembers K105 nin0)
  have c108 : Exa Z T105.heap r "com/example/opacheck/opacheck/PrecedenceTraversal" := (Exa.keep E0 K105)
  refine Go.putF (pc' := 24) (host := "") (ty := (.array .int)) C X105 (Or.inl (hw _ (List.mem_of_getElem? (i := 40) rfl))) Via.refl rfl c107 c108 (Or.inr ⟨(hw _ (List.mem_of_getElem? (i := 41) rfl)), rfl, rfl⟩) (hw _ (List.mem_of_getElem? (i := 18) rfl)) (by decide) rfl rfl d3_21 rfl ?_
  intro T106 h106 X106 e106 W106 F106
  have N106 := Fr.snoc X106 N105 hn
  refine Go.iloadN (pc' := 25) C X106 d3_24 rfl rfl ?_
  have O110 : Ext Z.heap h106 := (Ext.wr (Ext.keep O0 K105 all0) W106 hn)
  refine Go.newP (aty := .int) (cap := 4) (vs := [(.int (0 : Int32)), (.int (0 : Int32)), (.int (0 : Int32)), (.int (0 : Int32))]) (ad := "[I") (pc' := 27) C X106 (by decide) (hw _ (List.mem_of_getElem? (i := 10) rfl)) e106 (by decide) (by decide) (by decide) (by decide) (by decide) rfl d3_25 rfl ?_
  intro T109 h109 b109 k109 X109 e109 g109 E109 A109 Ea109
  have n_b109 : Z.heap.size ≤ b109 := Nat.le_trans O110.1 (Nat.le_of_eq g109.symm)
  have z_b109 : h0.size ≤ b109 := Nat.le_trans (Nat.le_trans (Nat.le_trans (Nat.le_refl _) K105.1) (Nat.le_of_eq W106.size.symm)) (Nat.le_of_eq g109.symm)
  have A109 : AL Z h109 b109 k109 .int [(.int (0 : Int32)), (.int (0 : Int32)), (.int (0 : Int32)), (.int (0 : Int32))] := A109
  refine Go.astoreN (Ls' := #[.val (.ref r), .val (.ref q), .val (.int (4 : Int32)), .val (.ref b109), .unset, .unset, .unset]) (pc' := 28) C X109 d3_27 rfl rfl rfl ?_
  refine Go.iconst (z := (0 : Int32)) (pc' := 29) C X109 d3_28 rfl rfl ?_
  refine Go.istore (Ls' := #[.val (.ref r), .val (.ref q), .val (.int (4 : Int32)), .val (.ref b109), .val (.int (0 : Int32)), .unset, .unset]) (pc' := 31) C X109 d3_29 rfl rfl ?_
  refine Go.iload (pc' := 33) C X109 d3_31 rfl rfl ?_
  refine Go.aloadN (pc' := 34) C X109 d3_33 rfl rfl rfl ?_
  have c112 : Fld Z h109 q "com/example/opacheck/opacheck/PrecedenceTraversal$Neighbours" "rangesSize" "I" (.int (0 : Int32)) := (Fld.ext E109 (Fld.other W106 (Fld.keep Gr K105 nin0) (Or.inl (Ne.symm hne))))
  refine Go.getFR (pc' := 37) C X109 (hw _ (List.mem_of_getElem? (i := 42) rfl)) e109 c112 d3_34 rfl ?_
  refine Go.icmpYes (pc' := 59) C X109 d3_37 (flt (x := (0 : Int32)) (y := (0 : Int32)) (by decide)).2.1 (by decide) (by decide) ?_
  refine Go.aloadN (pc' := 60) C X109 d3_59 rfl rfl rfl ?_
  refine Go.iloadN (pc' := 61) C X109 d3_60 rfl rfl ?_
  have O115 : Ext Z.heap h109 := (Ext.trans O110 E109)
  refine Go.newRA (ty := .int) (cap := 4) (vs := [.null, .null, .null, .null]) (ad := "[[I") (pc' := 64) C X109 (by decide) (by decide) (hw _ (List.mem_of_getElem? (i := 44) rfl)) (hw _ (List.mem_of_getElem? (i := 45) rfl)) e109 (by decide) (by decide) (by decide) (by decide) (by decide) rfl d3_61 rfl ?_
  intro T114 h114 b114 k114 X114 e114 g114 E114 A114 Ea114 O114v
  have n_b114 : Z.heap.size ≤ b114 := Nat.le_trans O115.1 (Nat.le_of_eq g114.symm)
  have z_b114 : h0.size ≤ b114 := Nat.le_trans (Nat.le_trans (Nat.le_trans (Nat.le_trans (Nat.le_refl _) K105.1) (Nat.le_of_eq W106.size.symm)) E109.1) (Nat.le_of_eq g114.symm)
  have A114 : AL Z h114 b114 k114 (.array .int) [.null, .null, .null, .null] := A114
  have c117 : Fld Z h114 r "com/example/opacheck/opacheck/PrecedenceTraversal" "ranges" "[[I" .null := (Fld.ext E114 (Fld.ext E109 (Fld.other W106 (Fld.keep Franges K105 nin0) (Or.inr (slot_ne (Or.inr (hw _ (List.mem_of_getElem? (i := 47) rfl))) (Or.inr (hw _ (List.mem_of_getElem? (i := 41) rfl))) (by decide) (t := (.array (.array .int))) (t' := (.array .int)) (by decide) (by decide))))))
  have c118 : Exa Z h114 r "com/example/opacheck/opacheck/PrecedenceTraversal" := (Exa.ext E114 (Exa.ext E109 (Exa.wr W106 c108)))
  refine Go.putF (pc' := 67) (host := "") (ty := (.array (.array .int))) C X114 (Or.inl (hw _ (List.mem_of_getElem? (i := 46) rfl))) Via.refl e114 c117 c118 (Or.inr ⟨(hw _ (List.mem_of_getElem? (i := 47) rfl)), rfl, rfl⟩) (hw _ (List.mem_of_getElem? (i := 18) rfl)) (by decide) rfl rfl d3_64 rfl ?_
  intro T116 h116 X116 e116 W116 F116
  have N116 := Fr.snoc X116 N106 hn
  refine Go.iconst (z := (0 : Int32)) (pc' := 68) C X116 d3_67 rfl rfl ?_
  refine Go.istore (Ls' := #[.val (.ref r), .val (.ref q), .val (.int (4 : Int32)), .val (.ref b109), .val (.int (0 : Int32)), .unset, .unset]) (pc' := 70) C X116 d3_68 rfl rfl ?_
  refine Go.iload (pc' := 72) C X116 d3_70 rfl rfl ?_
  refine Go.iloadN (pc' := 73) C X116 d3_72 rfl rfl ?_
  refine Go.icmpNo (pc' := 76) C X116 d3_73 (tlt (x := (0 : Int32)) (y := (4 : Int32)) (by decide)).2.1 rfl ?_
  refine Go.aloadN (pc' := 77) C X116 d3_76 rfl rfl rfl ?_
  refine Go.getF (pc' := 80) (host := "") C X116 (Or.inl (hw _ (List.mem_of_getElem? (i := 46) rfl))) Via.refl e116 F116 d3_77 rfl ?_
  intro T120 X120 e120
  refine Go.iload (pc' := 82) C X120 d3_80 rfl rfl ?_
  refine Go.iconst (z := (2 : Int32)) (pc' := 83) C X120 d3_82 rfl rfl ?_
  refine Go.aloadN (pc' := 84) C X120 d3_83 rfl rfl rfl ?_
  refine Go.iload (pc' := 86) C X120 d3_84 rfl rfl ?_
  have ne121 : b109 ≠ r := (Nat.ne_of_gt (Nat.lt_of_lt_of_le E0.lt (Nat.le_trans (Nat.le_trans (Nat.le_trans (Nat.le_refl _) K105.1) (Nat.le_of_eq W106.size.symm)) (Nat.le_of_eq g109.symm))))
  have c122 : AL Z h116 b109 k109 .int [(.int (0 : Int32)), (.int (0 : Int32)), (.int (0 : Int32)), (.int (0 : Int32))] := (AL.other W116 (AL.ext E114 A109) ne121)
  refine Go.ldI (i := 0) (v := (.int (0 : Int32))) (pc' := 87) C X120 e120 c122 (by decide) (by decide) rfl d3_86 rfl ?_
  refine Go.imul (pc' := 88) C X120 d3_87 rfl ?_
  rw [show ((2 : Int32) * (0 : Int32)) = (0 : Int32) from by decide]
  have O124 : Ext Z.heap h116 := (Ext.wr (Ext.trans O115 E114) W116 hn)
  refine Go.newP (aty := .int) (cap := 0) (vs := []) (ad := "[I") (pc' := 90) C X120 (by decide) (hw _ (List.mem_of_getElem? (i := 10) rfl)) e120 (by decide) (by decide) (by decide) (by decide) (by decide) rfl d3_88 rfl ?_
  intro T123 h123 b123 k123 X123 e123 g123 E123 A123 Ea123
  have n_b123 : Z.heap.size ≤ b123 := Nat.le_trans O124.1 (Nat.le_of_eq g123.symm)
  have z_b123 : h0.size ≤ b123 := Nat.le_trans (Nat.le_trans (Nat.le_trans (Nat.le_trans (Nat.le_trans (Nat.le_trans (Nat.le_refl _) K105.1) (Nat.le_of_eq W106.size.symm)) E109.1) E114.1) (Nat.le_of_eq W116.size.symm)) (Nat.le_of_eq g123.symm)
  have A123 : AL Z h123 b123 k123 .int [] := A123
  have ne125 : b114 ≠ r := (Nat.ne_of_gt (Nat.lt_of_lt_of_le E0.lt (Nat.le_trans (Nat.le_trans (Nat.le_trans (Nat.le_trans (Nat.le_refl _) K105.1) (Nat.le_of_eq W106.size.symm)) E109.1) (Nat.le_of_eq g114.symm))))
  have c126 : AL Z h123 b114 k114 (.array .int) [.null, .null, .null, .null] := (AL.ext E123 (AL.other W116 A114 ne125))
  refine Go.stR (i := 0) (vs' := [(.ref b123), .null, .null, .null]) (pc' := 91) C X123 e123 c126 (by decide) (by decide) (by simp) rfl (AL.stoA c126 O114v (Ins.self Ea123)) rfl d3_90 rfl ?_
  intro T127 h127 X127 e127 W127 A127
  have N127 := Fr.snoc X127 N116 n_b114
  refine Go.iinc (Ls' := #[.val (.ref r), .val (.ref q), .val (.int (4 : Int32)), .val (.ref b109), .val (.int ((0 : Int32) + (1 : Int32))), .unset, .unset]) (z := (1 : Int32)) (pc' := 94) C X127 d3_91 rfl rfl rfl rfl ?_
  rw [show ((0 : Int32) + (1 : Int32)) = (1 : Int32) from by decide]
  refine Go.goto (pc' := 70) C X127 d3_94 (by decide) (by decide) ?_
  refine Go.iload (pc' := 72) C X127 d3_70 rfl rfl ?_
  refine Go.iloadN (pc' := 73) C X127 d3_72 rfl rfl ?_
  refine Go.icmpNo (pc' := 76) C X127 d3_73 (tlt (x := (1 : Int32)) (y := (4 : Int32)) (by decide)).2.1 rfl ?_
  refine Go.aloadN (pc' := 77) C X127 d3_76 rfl rfl rfl ?_
  have c130 : Fld Z h127 r "com/example/opacheck/opacheck/PrecedenceTraversal" "ranges" "[[I" (.ref b114) := (Fld.other W127 (Fld.ext E123 F116) (Or.inl (Ne.symm ne125)))
  refine Go.getF (pc' := 80) (host := "") C X127 (Or.inl (hw _ (List.mem_of_getElem? (i := 46) rfl))) Via.refl e127 c130 d3_77 rfl ?_
  intro T129 X129 e129
  refine Go.iload (pc' := 82) C X129 d3_80 rfl rfl ?_
  refine Go.iconst (z := (2 : Int32)) (pc' := 83) C X129 d3_82 rfl rfl ?_
  refine Go.aloadN (pc' := 84) C X129 d3_83 rfl rfl rfl ?_
  refine Go.iload (pc' := 86) C X129 d3_84 rfl rfl ?_
  have ne131 : b109 ≠ b114 := Nat.ne_of_lt (Nat.lt_of_lt_of_le A109.lt (Nat.le_trans (Nat.le_refl _) (Nat.le_of_eq g114.symm)))
  have c132 : AL Z h127 b109 k109 .int [(.int (0 : Int32)), (.int (0 : Int32)), (.int (0 : Int32)), (.int (0 : Int32))] := (AL.other W127 (AL.ext E123 c122) ne131)
  refine Go.ldI (i := 1) (v := (.int (0 : Int32))) (pc' := 87) C X129 e129 c132 (by decide) (by decide) rfl d3_86 rfl ?_
  refine Go.imul (pc' := 88) C X129 d3_87 rfl ?_
  rw [show ((2 : Int32) * (0 : Int32)) = (0 : Int32) from by decide]
  have O134 : Ext Z.heap h127 := (Ext.wr (Ext.trans O124 E123) W127 n_b114)
  refine Go.newP (aty := .int) (cap := 0) (vs := []) (ad := "[I") (pc' := 90) C X129 (by decide) (hw _ (List.mem_of_getElem? (i := 10) rfl)) e129 (by decide) (by decide) (by decide) (by decide) (by decide) rfl d3_88 rfl ?_
  intro T133 h133 b133 k133 X133 e133 g133 E133 A133 Ea133
  have n_b133 : Z.heap.size ≤ b133 := Nat.le_trans O134.1 (Nat.le_of_eq g133.symm)
  have z_b133 : h0.size ≤ b133 := Nat.le_trans (Nat.le_trans (Nat.le_trans (Nat.le_trans (Nat.le_trans (Nat.le_trans (Nat.le_trans (Nat.le_trans (Nat.le_refl _) K105.1) (Nat.le_of_eq W106.size.symm)) E109.1) E114.1) (Nat.le_of_eq W116.size.symm)) E123.1) (Nat.le_of_eq W127.size.symm)) (Nat.le_of_eq g133.symm)
  have A133 : AL Z h133 b133 k133 .int [] := A133
  have c135 : AL Z h133 b114 k114 (.array .int) [(.ref b123), .null, .null, .null] := (AL.ext E133 A127)
  refine Go.stR (i := 1) (vs' := [(.ref b123), (.ref b133), .null, .null]) (pc' := 91) C X133 e133 c135 (by decide) (by decide) (by simp) rfl (AL.stoA c135 O114v (Ins.self Ea133)) rfl d3_90 rfl ?_
  intro T136 h136 X136 e136 W136 A136
  have N136 := Fr.snoc X136 N127 n_b114
  refine Go.iinc (Ls' := #[.val (.ref r), .val (.ref q), .val (.int (4 : Int32)), .val (.ref b109), .val (.int ((1 : Int32) + (1 : Int32))), .unset, .unset]) (z := (1 : Int32)) (pc' := 94) C X136 d3_91 rfl rfl rfl rfl ?_
  rw [show ((1 : Int32) + (1 : Int32)) = (2 : Int32) from by decide]
  refine Go.goto (pc' := 70) C X136 d3_94 (by decide) (by decide) ?_
  refine Go.iload (pc' := 72) C X136 d3_70 rfl rfl ?_
  refine Go.iloadN (pc' := 73) C X136 d3_72 rfl rfl ?_
  refine Go.icmpNo (pc' := 76) C X136 d3_73 (tlt (x := (2 : Int32)) (y := (4 : Int32)) (by decide)).2.1 rfl ?_
  refine Go.aloadN (pc' := 77) C X136 d3_76 rfl rfl rfl ?_
  have c139 : Fld Z h136 r "com/example/opacheck/opacheck/PrecedenceTraversal" "ranges" "[[I" (.ref b114) := (Fld.other W136 (Fld.ext E133 c130) (Or.inl (Ne.symm ne125)))
  refine Go.getF (pc' := 80) (host := "") C X136 (Or.inl (hw _ (List.mem_of_getElem? (i := 46) rfl))) Via.refl e136 c139 d3_77 rfl ?_
  intro T138 X138 e138
  refine Go.iload (pc' := 82) C X138 d3_80 rfl rfl ?_
  refine Go.iconst (z := (2 : Int32)) (pc' := 83) C X138 d3_82 rfl rfl ?_
  refine Go.aloadN (pc' := 84) C X138 d3_83 rfl rfl rfl ?_
  refine Go.iload (pc' := 86) C X138 d3_84 rfl rfl ?_
  have c140 : AL Z h136 b109 k109 .int [(.int (0 : Int32)), (.int (0 : Int32)), (.int (0 : Int32)), (.int (0 : Int32))] := (AL.other W136 (AL.ext E133 c132) ne131)
  refine Go.ldI (i := 2) (v := (.int (0 : Int32))) (pc' := 87) C X138 e138 c140 (by decide) (by decide) rfl d3_86 rfl ?_
  refine Go.imul (pc' := 88) C X138 d3_87 rfl ?_
  rw [show ((2 : Int32) * (0 : Int32)) = (0 : Int32) from by decide]
  have O142 : Ext Z.heap h136 := (Ext.wr (Ext.trans O134 E133) W136 n_b114)
  refine Go.newP (aty := .int) (cap := 0) (vs := []) (ad := "[I") (pc' := 90) C X138 (by decide) (hw _ (List.mem_of_getElem? (i := 10) rfl)) e138 (by decide) (by decide) (by decide) (by decide) (by decide) rfl d3_88 rfl ?_
  intro T141 h141 b141 k141 X141 e141 g141 E141 A141 Ea141
  have n_b141 : Z.heap.size ≤ b141 := Nat.le_trans O142.1 (Nat.le_of_eq g141.symm)
  have z_b141 : h0.size ≤ b141 := Nat.le_trans (Nat.le_trans (Nat.le_trans (Nat.le_trans (Nat.le_trans (Nat.le_trans (Nat.le_trans (Nat.le_trans (Nat.le_trans (Nat.le_trans (Nat.le_refl _) K105.1) (Nat.le_of_eq W106.size.symm)) E109.1) E114.1) (Nat.le_of_eq W116.size.symm)) E123.1) (Nat.le_of_eq W127.size.symm)) E133.1) (Nat.le_of_eq W136.size.symm)) (Nat.le_of_eq g141.symm)
  have A141 : AL Z h141 b141 k141 .int [] := A141
  have c143 : AL Z h141 b114 k114 (.array .int) [(.ref b123), (.ref b133), .null, .null] := (AL.ext E141 A136)
  refine Go.stR (i := 2) (vs' := [(.ref b123), (.ref b133), (.ref b141), .null]) (pc' := 91) C X141 e141 c143 (by decide) (by decide) (by simp) rfl (AL.stoA c143 O114v (Ins.self Ea141)) rfl d3_90 rfl ?_
  intro T144 h144 X144 e144 W144 A144
  have N144 := Fr.snoc X144 N136 n_b114
  refine Go.iinc (Ls' := #[.val (.ref r), .val (.ref q), .val (.int (4 : Int32)), .val (.ref b109), .val (.int ((2 : Int32) + (1 : Int32))), .unset, .unset]) (z := (1 : Int32)) (pc' := 94) C X144 d3_91 rfl rfl rfl rfl ?_
  rw [show ((2 : Int32) + (1 : Int32)) = (3 : Int32) from by decide]
  refine Go.goto (pc' := 70) C X144 d3_94 (by decide) (by decide) ?_
  refine Go.iload (pc' := 72) C X144 d3_70 rfl rfl ?_
  refine Go.iloadN (pc' := 73) C X144 d3_72 rfl rfl ?_
  refine Go.icmpNo (pc' := 76) C X144 d3_73 (tlt (x := (3 : Int32)) (y := (4 : Int32)) (by decide)).2.1 rfl ?_
  refine Go.aloadN (pc' := 77) C X144 d3_76 rfl rfl rfl ?_
  have c147 : Fld Z h144 r "com/example/opacheck/opacheck/PrecedenceTraversal" "ranges" "[[I" (.ref b114) := (Fld.other W144 (Fld.ext E141 c139) (Or.inl (Ne.symm ne125)))
  refine Go.getF (pc' := 80) (host := "") C X144 (Or.inl (hw _ (List.mem_of_getElem? (i := 46) rfl))) Via.refl e144 c147 d3_77 rfl ?_
  intro T146 X146 e146
  refine Go.iload (pc' := 82) C X146 d3_80 rfl rfl ?_
  refine Go.iconst (z := (2 : Int32)) (pc' := 83) C X146 d3_82 rfl rfl ?_
  refine Go.aloadN (pc' := 84) C X146 d3_83 rfl rfl rfl ?_
  refine Go.iload (pc' := 86) C X146 d3_84 rfl rfl ?_
  have c148 : AL Z h144 b109 k109 .int [(.int (0 : Int32)), (.int (0 : Int32)), (.int (0 : Int32)), (.int (0 : Int32))] := (AL.other W144 (AL.ext E141 c140) ne131)
  refine Go.ldI (i := 3) (v := (.int (0 : Int32))) (pc' := 87) C X146 e146 c148 (by decide) (by decide) rfl d3_86 rfl ?_
  refine Go.imul (pc' := 88) C X146 d3_87 rfl ?_
  rw [show ((2 : Int32) * (0 : Int32)) = (0 : Int32) from by decide]
  have O150 : Ext Z.heap h144 := (Ext.wr (Ext.trans O142 E141) W144 n_b114)
  refine Go.newP (aty := .int) (cap := 0) (vs := []) (ad := "[I") (pc' := 90) C X146 (by decide) (hw _ (List.mem_of_getElem? (i := 10) rfl)) e146 (by decide) (by decide) (by decide) (by decide) (by decide) rfl d3_88 rfl ?_
  intro T149 h149 b149 k149 X149 e149 g149 E149 A149 Ea149
  have n_b149 : Z.heap.size ≤ b149 := Nat.le_trans O150.1 (Nat.le_of_eq g149.symm)
  have z_b149 : h0.size ≤ b149 := Nat.le_trans (Nat.le_trans (Nat.le_trans (Nat.le_trans (Nat.le_trans (Nat.le_trans (Nat.le_trans (Nat.le_trans (Nat.le_trans (Nat.le_trans (Nat.le_trans (Nat.le_trans (Nat.le_refl _) K105.1) (Nat.le_of_eq W106.size.symm)) E109.1) E114.1) (Nat.le_of_eq W116.size.symm)) E123.1) (Nat.le_of_eq W127.size.symm)) E133.1) (Nat.le_of_eq W136.size.symm)) E141.1) (Nat.le_of_eq W144.size.symm)) (Nat.le_of_eq g149.symm)
  have A149 : AL Z h149 b149 k149 .int [] := A149
  have c151 : AL Z h149 b114 k114 (.array .int) [(.ref b123), (.ref b133), (.ref b141), .null] := (AL.ext E149 A144)
  refine Go.stR (i := 3) (vs' := [(.ref b123), (.ref b133), (.ref b141), (.ref b149)]) (pc' := 91) C X149 e149 c151 (by decide) (by decide) (by simp) rfl (AL.stoA c151 O114v (Ins.self Ea149)) rfl d3_90 rfl ?_
  intro T152 h152 X152 e152 W152 A152
  have N152 := Fr.snoc X152 N144 n_b114
  refine Go.iinc (Ls' := #[.val (.ref r), .val (.ref q), .val (.int (4 : Int32)), .val (.ref b109), .val (.int ((3 : Int32) + (1 : Int32))), .unset, .unset]) (z := (1 : Int32)) (pc' := 94) C X152 d3_91 rfl rfl rfl rfl ?_
  rw [show ((3 : Int32) + (1 : Int32)) = (4 : Int32) from by decide]
  refine Go.goto (pc' := 70) C X152 d3_94 (by decide) (by decide) ?_
  refine Go.iload (pc' := 72) C X152 d3_70 rfl rfl ?_
  refine Go.iloadN (pc' := 73) C X152 d3_72 rfl rfl ?_
  refine Go.icmpYes (pc' := 97) C X152 d3_73 (flt (x := (4 : Int32)) (y := (4 : Int32)) (by decide)).2.1 (by decide) (by decide) ?_
  refine Go.iloadN (pc' := 98) C X152 d3_97 rfl rfl ?_
  have O155 : Ext Z.heap h152 := (Ext.wr (Ext.trans O150 E149) W152 n_b114)
  refine Go.newP (aty := .int) (cap := 4) (vs := [(.int (0 : Int32)), (.int (0 : Int32)), (.int (0 : Int32)), (.int (0 : Int32))]) (ad := "[I") (pc' := 100) C X152 (by decide) (hw _ (List.mem_of_getElem? (i := 10) rfl)) e152 (by decide) (by decide) (by decide) (by decide) (by decide) rfl d3_98 rfl ?_
  intro T154 h154 b154 k154 X154 e154 g154 E154 A154 Ea154
  have n_b154 : Z.heap.size ≤ b154 := Nat.le_trans O155.1 (Nat.le_of_eq g154.symm)
  have z_b154 : h0.size ≤ b154 := Nat.le_trans (Nat.le_trans (Nat.le_trans (Nat.le_trans (Nat.le_trans (Nat.le_trans (Nat.le_trans (Nat.le_trans (Nat.le_trans (Nat.le_trans (Nat.le_trans (Nat.le_trans (Nat.le_trans (Nat.le_trans (Nat.le_refl _) K105.1) (Nat.le_of_eq W106.size.symm)) E109.1) E114.1) (Nat.le_of_eq W116.size.symm)) E123.1) (Nat.le_of_eq W127.size.symm)) E133.1) (Nat.le_of_eq W136.size.symm)) E141.1) (Nat.le_of_eq W144.size.symm)) E149.1) (Nat.le_of_eq W152.size.symm)) (Nat.le_of_eq g154.symm)
  have A154 : AL Z h154 b154 k154 .int [(.int (0 : Int32)), (.int (0 : Int32)), (.int (0 : Int32)), (.int (0 : Int32))] := A154
  refine Go.astore (Ls' := #[.val (.ref r), .val (.ref q), .val (.int (4 : Int32)), .val (.ref b109), .val (.ref b154), .unset, .unset]) (pc' := 102) C X154 d3_100 rfl rfl rfl ?_
  refine Go.iconst (z := (0 : Int32)) (pc' := 103) C X154 d3_102 rfl rfl ?_
  refine Go.istore (Ls' := #[.val (.ref r), .val (.ref q), .val (.int (4 : Int32)), .val (.ref b109), .val (.ref b154), .val (.int (0 : Int32)), .unset]) (pc' := 105) C X154 d3_103 rfl rfl ?_
  refine Go.iload (pc' := 107) C X154 d3_105 rfl rfl ?_
  refine Go.aloadN (pc' := 108) C X154 d3_107 rfl rfl rfl ?_
  have ne157 : q ≠ b114 := Nat.ne_of_lt (Nat.lt_of_lt_of_le Gm.lt (Nat.le_trans (Nat.le_trans (Nat.le_trans (Nat.le_trans (Nat.le_refl _) K105.1) (Nat.le_of_eq W106.size.symm)) E109.1) (Nat.le_of_eq g114.symm)))
  have c158 : Fld Z h154 q "com/example/opacheck/opacheck/PrecedenceTraversal$Neighbours" "rangesSize" "I" (.int (0 : Int32)) := (Fld.ext E154 (Fld.other W152 (Fld.ext E149 (Fld.other W144 (Fld.ext E141 (Fld.other W136 (Fld.ext E133 (Fld.other W127 (Fld.ext E123 (Fld.other W116 (Fld.ext E114 c112) (Or.inl (Ne.symm hne)))) (Or.inl ne157))) (Or.inl ne157))) (Or.inl ne157))) (Or.inl ne157)))
  refine Go.getFR (pc' := 111) C X154 (hw _ (List.mem_of_getElem? (i := 42) rfl)) e154 c158 d3_108 rfl ?_
  refine Go.icmpYes (pc' := 183) C X154 d3_111 (flt (x := (0 : Int32)) (y := (0 : Int32)) (by decide)).2.1 (by decide) (by decide) ?_
  refine Go.aloadN (pc' := 184) C X154 d3_183 rfl rfl rfl ?_
  refine Go.iloadN (pc' := 185) C X154 d3_184 rfl rfl ?_
  have O161 : Ext Z.heap h154 := (Ext.trans O155 E154)
  refine Go.newP (aty := .int) (cap := 4) (vs := [(.int (0 : Int32)), (.int (0 : Int32)), (.int (0 : Int32)), (.int (0 : Int32))]) (ad := "[I") (pc' := 187) C X154 (by decide) (hw _ (List.mem_of_getElem? (i := 10) rfl)) e154 (by decide) (by decide) (by decide) (by decide) (by decide) rfl d3_185 rfl ?_
  intro T160 h160 b160 k160 X160 e160 g160 E160 A160 Ea160
  have n_b160 : Z.heap.size ≤ b160 := Nat.le_trans O161.1 (Nat.le_of_eq g160.symm)
  have z_b160 : h0.size ≤ b160 := Nat.le_trans (Nat.le_trans (Nat.le_trans (Nat.le_trans (Nat.le_trans (Nat.le_trans (Nat.le_trans (Nat.le_trans (Nat.le_trans (Nat.le_trans (Nat.le_trans (Nat.le_trans (Nat.le_trans (Nat.le_trans (Nat.le_trans (Nat.le_refl _) K105.1) (Nat.le_of_eq W106.size.symm)) E109.1) E114.1) (Nat.le_of_eq W116.size.symm)) E123.1) (Nat.le_of_eq W127.size.symm)) E133.1) (Nat.le_of_eq W136.size.symm)) E141.1) (Nat.le_of_eq W144.size.symm)) E149.1) (Nat.le_of_eq W152.size.symm)) E154.1) (Nat.le_of_eq g160.symm)
  have A160 : AL Z h160 b160 k160 .int [(.int (0 : Int32)), (.int (0 : Int32)), (.int (0 : Int32)), (.int (0 : Int32))] := A160
  have c163 : Fld Z h160 r "com/example/opacheck/opacheck/PrecedenceTraversal" "visitedIn" "[I" .null := (Fld.ext E160 (Fld.ext E154 (Fld.other W152 (Fld.ext E149 (Fld.other W144 (Fld.ext E141 (Fld.other W136 (Fld.ext E133 (Fld.other W127 (Fld.ext E123 (Fld.other W116 (Fld.ext E114 (Fld.ext E109 (Fld.other W106 (Fld.keep FvisitedIn K105 nin0) (Or.inr (slot_ne (Or.inr (hw _ (List.mem_of_getElem? (i := 50) rfl))) (Or.inr (hw _ (List.mem_of_getElem? (i := 41) rfl))) (by decide) (t := (.array .int)) (t' := (.array .int)) (by decide) (by decide)))))) (Or.inr (slot_ne (Or.inr (hw _ (List.mem_of_getElem? (i := 50) rfl))) (Or.inr (hw _ (List.mem_of_getElem? (i := 47) rfl))) (by decide) (t := (.array .int)) (t' := (.array (.array .int))) (by decide) (by decide))))) (Or.inl (Ne.symm ne125)))) (Or.inl (Ne.symm ne125)))) (Or.inl (Ne.symm ne125)))) (Or.inl (Ne.symm ne125)))))
  have c164 : Exa Z h160 r "com/example/opacheck/opacheck/PrecedenceTraversal" := (Exa.ext E160 (Exa.ext E154 (Exa.wr W152 (Exa.ext E149 (Exa.wr W144 (Exa.ext E141 (Exa.wr W136 (Exa.ext E133 (Exa.wr W127 (Exa.ext E123 (Exa.wr W116 c118)))))))))))
  refine Go.putF (pc' := 190) (host := "") (ty := (.array .int)) C X160 (Or.inl (hw _ (List.mem_of_getElem? (i := 49) rfl))) Via.refl e160 c163 c164 (Or.inr ⟨(hw _ (List.mem_of_getElem? (i := 50) rfl)), rfl, rfl⟩) (hw _ (List.mem_of_getElem? (i := 18) rfl)) (by decide) rfl rfl d3_187 rfl ?_
  intro T162 h162 X162 e162 W162 F162
  have N162 := Fr.snoc X162 N152 hn
  refine Go.aloadN (pc' := 191) C X162 d3_190 rfl rfl rfl ?_
  refine Go.iloadN (pc' := 192) C X162 d3_191 rfl rfl ?_
  have O166 : Ext Z.heap h162 := (Ext.wr (Ext.trans O161 E160) W162 hn)
  refine Go.newP (aty := .int) (cap := 4) (vs := [(.int (0 : Int32)), (.int (0 : Int32)), (.int (0 : Int32)), (.int (0 : Int32))]) (ad := "[I") (pc' := 194) C X162 (by decide) (hw _ (List.mem_of_getElem? (i := 10) rfl)) e162 (by decide) (by decide) (by decide) (by decide) (by decide) rfl d3_192 rfl ?_
  intro T165 h165 b165 k165 X165 e165 g165 E165 A165 Ea165
  have n_b165 : Z.heap.size ≤ b165 := Nat.le_trans O166.1 (Nat.le_of_eq g165.symm)
  have z_b165 : h0.size ≤ b165 := Nat.le_trans (Nat.le_trans (Nat.le_trans (Nat.le_trans (Nat.le_trans (Nat.le_trans (Nat.le_trans (Nat.le_trans (Nat.le_trans (Nat.le_trans (Nat.le_trans (Nat.le_trans (Nat.le_trans (Nat.le_trans (Nat.le_trans (Nat.le_trans (Nat.le_trans (Nat.le_refl _) K105.1) (Nat.le_of_eq W106.size.symm)) E109.1) E114.1) (Nat.le_of_eq W116.size.symm)) E123.1) (Nat.le_of_eq W127.size.symm)) E133.1) (Nat.le_of_eq W136.size.symm)) E141.1) (Nat.le_of_eq W144.size.symm)) E149.1) (Nat.le_of_eq W152.size.symm)) E154.1) E160.1) (Nat.le_of_eq W162.size.symm)) (Nat.le_of_eq g165.symm)
  have A165 : AL Z h165 b165 k165 .int [(.int (0 : Int32)), (.int (0 : Int32)), (.int (0 : Int32)), (.int (0 : Int32))] := A165
  have c168 : Fld Z h165 r "com/example/opacheck/opacheck/PrecedenceTraversal" "positions" "[I" .null := (Fld.ext E165 (Fld.other W162 (Fld.ext E160 (Fld.ext E154 (Fld.other W152 (Fld.ext E149 (Fld.other W144 (Fld.ext E141 (Fld.other W136 (Fld.ext E133 (Fld.other W127 (Fld.ext E123 (Fld.other W116 (Fld.ext E114 (Fld.ext E109 (Fld.other W106 (Fld.keep Fpositions K105 nin0) (Or.inr (slot_ne (Or.inr (hw _ (List.mem_of_getElem? (i := 52) rfl))) (Or.inr (hw _ (List.mem_of_getElem? (i := 41) rfl))) (by decide) (t := (.array .int)) (t' := (.array .int)) (by decide) (by decide)))))) (Or.inr (slot_ne (Or.inr (hw _ (List.mem_of_getElem? (i := 52) rfl))) (Or.inr (hw _ (List.mem_of_getElem? (i := 47) rfl))) (by decide) (t := (.array .int)) (t' := (.array (.array .int))) (by decide) (by decide))))) (Or.inl (Ne.symm ne125)))) (Or.inl (Ne.symm ne125)))) (Or.inl (Ne.symm ne125)))) (Or.inl (Ne.symm ne125))))) (Or.inr (slot_ne (Or.inr (hw _ (List.mem_of_getElem? (i := 52) rfl))) (Or.inr (hw _ (List.mem_of_getElem? (i := 50) rfl))) (by decide) (t := (.array .int)) (t' := (.array .int)) (by decide) (by decide)))))
  have c169 : Exa Z h165 r "com/example/opacheck/opacheck/PrecedenceTraversal" := (Exa.ext E165 (Exa.wr W162 c164))
  refine Go.putF (pc' := 197) (host := "") (ty := (.array .int)) C X165 (Or.inl (hw _ (List.mem_of_getElem? (i := 51) rfl))) Via.refl e165 c168 c169 (Or.inr ⟨(hw _ (List.mem_of_getElem? (i := 52) rfl)), rfl, rfl⟩) (hw _ (List.mem_of_getElem? (i := 18) rfl)) (by decide) rfl rfl d3_194 rfl ?_
  intro T167 h167 X167 e167 W167 F167
  have N167 := Fr.snoc X167 N162 hn
  refine Go.aloadN (pc' := 198) C X167 d3_197 rfl rfl rfl ?_
  refine Go.aloadN (pc' := 199) C X167 d3_198 rfl rfl rfl ?_
  have c171 : Fld Z h167 r "com/example/opacheck/opacheck/PrecedenceTraversal" "members" "[I" (.ref b_105) := (Fld.other W167 (Fld.ext E165 (Fld.other W162 (Fld.ext E160 (Fld.ext E154 (Fld.other W152 (Fld.ext E149 (Fld.other W144 (Fld.ext E141 (Fld.other W136 (Fld.ext E133 (Fld.other W127 (Fld.ext E123 (Fld.other W116 (Fld.ext E114 (Fld.ext E109 F106)) (Or.inr (slot_ne (Or.inr (hw _ (List.mem_of_getElem? (i := 41) rfl))) (Or.inr (hw _ (List.mem_of_getElem? (i := 47) rfl))) (by decide) (t := (.array .int)) (t' := (.array (.array .int))) (by decide) (by decide))))) (Or.inl (Ne.symm ne125)))) (Or.inl (Ne.symm ne125)))) (Or.inl (Ne.symm ne125)))) (Or.inl (Ne.symm ne125))))) (Or.inr (slot_ne (Or.inr (hw _ (List.mem_of_getElem? (i := 41) rfl))) (Or.inr (hw _ (List.mem_of_getElem? (i := 50) rfl))) (by decide) (t := (.array .int)) (t' := (.array .int)) (by decide) (by decide))))) (Or.inr (slot_ne (Or.inr (hw _ (List.mem_of_getElem? (i := 41) rfl))) (Or.inr (hw _ (List.mem_of_getElem? (i := 52) rfl))) (by decide) (t := (.array .int)) (t' := (.array .int)) (by decide) (by decide))))
  refine Go.getF (pc' := 202) (host := "") C X167 (Or.inl (hw _ (List.mem_of_getElem? (i := 40) rfl))) Via.refl e167 c171 d3_199 rfl ?_
  intro T170 X170 e170
  have ne172 : b_105 ≠ r := (Nat.ne_of_gt (Nat.lt_of_lt_of_le E0.lt (Nat.le_trans (Nat.le_refl _) B105_0)))
  have ne173 : b_105 ≠ b114 := Nat.ne_of_lt (Nat.lt_of_lt_of_le P105_0.lt (Nat.le_trans (Nat.le_trans (Nat.le_trans (Nat.le_refl _) (Nat.le_of_eq W106.size.symm)) E109.1) (Nat.le_of_eq g114.symm)))
  have c174 : AL Z h167 b_105 kb_105 .int [] := (AL.other W167 (AL.ext E165 (AL.other W162 (AL.ext E160 (AL.ext E154 (AL.other W152 (AL.ext E149 (AL.other W144 (AL.ext E141 (AL.other W136 (AL.ext E133 (AL.other W127 (AL.ext E123 (AL.other W116 (AL.ext E114 (AL.ext E109 (AL.other W106 P105_0 ne172))) ne172)) ne173)) ne173)) ne173)) ne173))) ne172)) ne172)
  refine Go.alen (z := (0 : Int32)) (pc' := 203) C X170 e170 c174 rfl d3_202 rfl ?_
  refine Go.iconst (z := (1 : Int32)) (pc' := 204) C X170 d3_203 rfl rfl ?_
  refine Go.iadd (pc' := 205) C X170 d3_204 rfl ?_
  rw [show ((0 : Int32) + (1 : Int32)) = (1 : Int32) from by decide]
  have O176 : Ext Z.heap h167 := (Ext.wr (Ext.trans O166 E165) W167 hn)
  refine Go.newP (aty := .int) (cap := 1) (vs := [(.int (0 : Int32))]) (ad := "[I") (pc' := 207) C X170 (by decide) (hw _ (List.mem_of_getElem? (i := 10) rfl)) e170 (by decide) (by decide) (by decide) (by decide) (by decide) rfl d3_205 rfl ?_
  intro T175 h175 b175 k175 X175 e175 g175 E175 A175 Ea175
  have n_b175 : Z.heap.size ≤ b175 := Nat.le_trans O176.1 (Nat.le_of_eq g175.symm)
  have z_b175 : h0.size ≤ b175 := Nat.le_trans (Nat.le_trans (Nat.le_trans (Nat.le_trans (Nat.le_trans (Nat.le_trans (Nat.le_trans (Nat.le_trans (Nat.le_trans (Nat.le_trans (Nat.le_trans (Nat.le_trans (Nat.le_trans (Nat.le_trans (Nat.le_trans (Nat.le_trans (Nat.le_trans (Nat.le_trans (Nat.le_trans (Nat.le_refl _) K105.1) (Nat.le_of_eq W106.size.symm)) E109.1) E114.1) (Nat.le_of_eq W116.size.symm)) E123.1) (Nat.le_of_eq W127.size.symm)) E133.1) (Nat.le_of_eq W136.size.symm)) E141.1) (Nat.le_of_eq W144.size.symm)) E149.1) (Nat.le_of_eq W152.size.symm)) E154.1) E160.1) (Nat.le_of_eq W162.size.symm)) E165.1) (Nat.le_of_eq W167.size.symm)) (Nat.le_of_eq g175.symm)
  have A175 : AL Z h175 b175 k175 .int [(.int (0 : Int32))] := A175
  have c178 : Fld Z h175 r "com/example/opacheck/opacheck/PrecedenceTraversal" "links" "[I" .null := (Fld.ext E175 (Fld.other W167 (Fld.ext E165 (Fld.other W162 (Fld.ext E160 (Fld.ext E154 (Fld.other W152 (Fld.ext E149 (Fld.other W144 (Fld.ext E141 (Fld.other W136 (Fld.ext E133 (Fld.other W127 (Fld.ext E123 (Fld.other W116 (Fld.ext E114 (Fld.ext E109 (Fld.other W106 (Fld.keep Flinks K105 nin0) (Or.inr (slot_ne (Or.inr (hw _ (List.mem_of_getElem? (i := 54) rfl))) (Or.inr (hw _ (List.mem_of_getElem? (i := 41) rfl))) (by decide) (t := (.array .int)) (t' := (.array .int)) (by decide) (by decide)))))) (Or.inr (slot_ne (Or.inr (hw _ (List.mem_of_getElem? (i := 54) rfl))) (Or.inr (hw _ (List.mem_of_getElem? (i := 47) rfl))) (by decide) (t := (.array .int)) (t' := (.array (.array .int))) (by decide) (by decide))))) (Or.inl (Ne.symm ne125)))) (Or.inl (Ne.symm ne125)))) (Or.inl (Ne.symm ne125)))) (Or.inl (Ne.symm ne125))))) (Or.inr (slot_ne (Or.inr (hw _ (List.mem_of_getElem? (i := 54) rfl))) (Or.inr (hw _ (List.mem_of_getElem? (i := 50) rfl))) (by decide) (t := (.array .int)) (t' := (.array .int)) (by decide) (by decide))))) (Or.inr (slot_ne (Or.inr (hw _ (List.mem_of_getElem? (i := 54) rfl))) (Or.inr (hw _ (List.mem_of_getElem? (i := 52) rfl))) (by decide) (t := (.array .int)) (t' := (.array .int)) (by decide) (by decide)))))
  have c179 : Exa Z h175 r "com/example/opacheck/opacheck/PrecedenceTraversal" := (Exa.ext E175 (Exa.wr W167 c169))
  refine Go.putF (pc' := 210) (host := "") (ty := (.array .int)) C X175 (Or.inl (hw _ (List.mem_of_getElem? (i := 53) rfl))) Via.refl e175 c178 c179 (Or.inr ⟨(hw _ (List.mem_of_getElem? (i := 54) rfl)), rfl, rfl⟩) (hw _ (List.mem_of_getElem? (i := 18) rfl)) (by decide) rfl rfl d3_207 rfl ?_
  intro T177 h177 X177 e177 W177 F177
  have N177 := Fr.snoc X177 N167 hn
  refine Go.aloadN (pc' := 211) C X177 d3_210 rfl rfl rfl ?_
  refine Go.aloadN (pc' := 212) C X177 d3_211 rfl rfl rfl ?_
  have c181 : Fld Z h177 r "com/example/opacheck/opacheck/PrecedenceTraversal" "members" "[I" (.ref b_105) := (Fld.other W177 (Fld.ext E175 c171) (Or.inr (slot_ne (Or.inr (hw _ (List.mem_of_getElem? (i := 41) rfl))) (Or.inr (hw _ (List.mem_of_getElem? (i := 54) rfl))) (by decide) (t := (.array .int)) (t' := (.array .int)) (by decide) (by decide))))
  refine Go.getF (pc' := 215) (host := "") C X177 (Or.inl (hw _ (List.mem_of_getElem? (i := 40) rfl))) Via.refl e177 c181 d3_212 rfl ?_
  intro T180 X180 e180
  have c182 : AL Z h177 b_105 kb_105 .int [] := (AL.other W177 (AL.ext E175 c174) ne172)
  refine Go.alen (z := (0 : Int32)) (pc' := 216) C X180 e180 c182 rfl d3_215 rfl ?_
  refine Go.iconst (z := (1 : Int32)) (pc' := 217) C X180 d3_216 rfl rfl ?_
  refine Go.iadd (pc' := 218) C X180 d3_217 rfl ?_
  rw [show ((0 : Int32) + (1 : Int32)) = (1 : Int32) from by decide]
  have O184 : Ext Z.heap h177 := (Ext.wr (Ext.trans O176 E175) W177 hn)
  refine Go.newP (aty := .int) (cap := 1) (vs := [(.int (0 : Int32))]) (ad := "[I") (pc' := 220) C X180 (by decide) (hw _ (List.mem_of_getElem? (i := 10) rfl)) e180 (by decide) (by decide) (by decide) (by decide) (by decide) rfl d3_218 rfl ?_
  intro T183 h183 b183 k183 X183 e183 g183 E183 A183 Ea183
  have n_b183 : Z.heap.size ≤ b183 := Nat.le_trans O184.1 (Nat.le_of_eq g183.symm)
  have z_b183 : h0.size ≤ b183 := Nat.le_trans (Nat.le_trans (Nat.le_trans (Nat.le_trans (Nat.le_trans (Nat.le_trans (Nat.le_trans (Nat.le_trans (Nat.le_trans (Nat.le_trans (Nat.le_trans (Nat.le_trans (Nat.le_trans (Nat.le_trans (Nat.le_trans (Nat.le_trans (Nat.le_trans (Nat.le_trans (Nat.le_trans (Nat.le_trans (Nat.le_trans (Nat.le_refl _) K105.1) (Nat.le_of_eq W106.size.symm)) E109.1) E114.1) (Nat.le_of_eq W116.size.symm)) E123.1) (Nat.le_of_eq W127.size.symm)) E133.1) (Nat.le_of_eq W136.size.symm)) E141.1) (Nat.le_of_eq W144.size.symm)) E149.1) (Nat.le_of_eq W152.size.symm)) E154.1) E160.1) (Nat.le_of_eq W162.size.symm)) E165.1) (Nat.le_of_eq W167.size.symm)) E175.1) (Nat.le_of_eq W177.size.symm)) (Nat.le_of_eq g183.symm)
  have A183 : AL Z h183 b183 k183 .int [(.int (0 : Int32))] := A183
  have c186 : Fld Z h183 r "com/example/opacheck/opacheck/PrecedenceTraversal" "linkedIn" "[I" .null := (Fld.ext E183 (Fld.other W177 (Fld.ext E175 (Fld.other W167 (Fld.ext E165 (Fld.other W162 (Fld.ext E160 (Fld.ext E154 (Fld.other W152 (Fld.ext E149 (Fld.other W144 (Fld.ext E141 (Fld.other W136 (Fld.ext E133 (Fld.other W127 (Fld.ext E123 (Fld.other W116 (Fld.ext E114 (Fld.ext E109 (Fld.other W106 (Fld.keep FlinkedIn K105 nin0) (Or.inr (slot_ne (Or.inr (hw _ (List.mem_of_getElem? (i := 56) rfl))) (Or.inr (hw _ (List.mem_of_getElem? (i := 41) rfl))) (by decide) (t := (.array .int)) (t' := (.array .int)) (by decide) (by decide)))))) (Or.inr (slot_ne (Or.inr (hw _ (List.mem_of_getElem? (i := 56) rfl))) (Or.inr (hw _ (List.mem_of_getElem? (i := 47) rfl))) (by decide) (t := (.array .int)) (t' := (.array (.array .int))) (by decide) (by decide))))) (Or.inl (Ne.symm ne125)))) (Or.inl (Ne.symm ne125)))) (Or.inl (Ne.symm ne125)))) (Or.inl (Ne.symm ne125))))) (Or.inr (slot_ne (Or.inr (hw _ (List.mem_of_getElem? (i := 56) rfl))) (Or.inr (hw _ (List.mem_of_getElem? (i := 50) rfl))) (by decide) (t := (.array .int)) (t' := (.array .int)) (by decide) (by decide))))) (Or.inr (slot_ne (Or.inr (hw _ (List.mem_of_getElem? (i := 56) rfl))) (Or.inr (hw _ (List.mem_of_getElem? (i := 52) rfl))) (by decide) (t := (.array .int)) (t' := (.array .int)) (by decide) (by decide))))) (Or.inr (slot_ne (Or.inr (hw _ (List.mem_of_getElem? (i := 56) rfl))) (Or.inr (hw _ (List.mem_of_getElem? (i := 54) rfl))) (by decide) (t := (.array .int)) (t' := (.array .int)) (by decide) (by decide)))))
  have c187 : Exa Z h183 r "com/example/opacheck/opacheck/PrecedenceTraversal" := (Exa.ext E183 (Exa.wr W177 c179))
  refine Go.putF (pc' := 223) (host := "") (ty := (.array .int)) C X183 (Or.inl (hw _ (List.mem_of_getElem? (i := 55) rfl))) Via.refl e183 c186 c187 (Or.inr ⟨(hw _ (List.mem_of_getElem? (i := 56) rfl)), rfl, rfl⟩) (hw _ (List.mem_of_getElem? (i := 18) rfl)) (by decide) rfl rfl d3_220 rfl ?_
  intro T185 h185 X185 e185 W185 F185
  have N185 := Fr.snoc X185 N177 hn
  refine Go.aloadN (pc' := 224) C X185 d3_223 rfl rfl rfl ?_
  refine Go.iloadN (pc' := 225) C X185 d3_224 rfl rfl ?_
  have O189 : Ext Z.heap h185 := (Ext.wr (Ext.trans O184 E183) W185 hn)
  refine Go.newP (aty := .int) (cap := 4) (vs := [(.int (0 : Int32)), (.int (0 : Int32)), (.int (0 : Int32)), (.int (0 : Int32))]) (ad := "[I") (pc' := 227) C X185 (by decide) (hw _ (List.mem_of_getElem? (i := 10) rfl)) e185 (by decide) (by decide) (by decide) (by decide) (by decide) rfl d3_225 rfl ?_
  intro T188 h188 b188 k188 X188 e188 g188 E188 A188 Ea188
  have n_b188 : Z.heap.size ≤ b188 := Nat.le_trans O189.1 (Nat.le_of_eq g188.symm)
  have z_b188 : h0.size ≤ b188 := Nat.le_trans (Nat.le_trans (Nat.le_trans (Nat.le_trans (Nat.le_trans (Nat.le_trans (Nat.le_trans (Nat.le_trans (Nat.le_trans (Nat.le_trans (Nat.le_trans (Nat.le_trans (Nat.le_trans (Nat.le_trans (Nat.le_trans (Nat.le_trans (Nat.le_trans (Nat.le_trans (Nat.le_trans (Nat.le_trans (Nat.le_trans (Nat.le_trans (Nat.le_trans (Nat.le_refl _) K105.1) (Nat.le_of_eq W106.size.symm)) E109.1) E114.1) (Nat.le_of_eq W116.size.symm)) E123.1) (Nat.le_of_eq W127.size.symm)) E133.1) (Nat.le_of_eq W136.size.symm)) E141.1) (Nat.le_of_eq W144.size.symm)) E149.1) (Nat.le_of_eq W152.size.symm)) E154.1) E160.1) (Nat.le_of_eq W162.size.symm)) E165.1) (Nat.le_of_eq W167.size.symm)) E175.1) (Nat.le_of_eq W177.size.symm)) E183.1) (Nat.le_of_eq W185.size.symm)) (Nat.le_of_eq g188.symm)
  have A188 : AL Z h188 b188 k188 .int [(.int (0 : Int32)), (.int (0 : Int32)), (.int (0 : Int32)), (.int (0 : Int32))] := A188
  have c191 : Fld Z h188 r "com/example/opacheck/opacheck/PrecedenceTraversal" "path" "[I" .null := (Fld.ext E188 (Fld.other W185 (Fld.ext E183 (Fld.other W177 (Fld.ext E175 (Fld.other W167 (Fld.ext E165 (Fld.other W162 (Fld.ext E160 (Fld.ext E154 (Fld.other W152 (Fld.ext E149 (Fld.other W144 (Fld.ext E141 (Fld.other W136 (Fld.ext E133 (Fld.other W127 (Fld.ext E123 (Fld.other W116 (Fld.ext E114 (Fld.ext E109 (Fld.other W106 (Fld.keep Fpath K105 nin0) (Or.inr (slot_ne (Or.inr (hw _ (List.mem_of_getElem? (i := 58) rfl))) (Or.inr (hw _ (List.mem_of_getElem? (i := 41) rfl))) (by decide) (t := (.array .int)) (t' := (.array .int)) (by decide) (by decide)))))) (Or.inr (slot_ne (Or.inr (hw _ (List.mem_of_getElem? (i := 58) rfl))) (Or.inr (hw _ (List.mem_of_getElem? (i := 47) rfl))) (by decide) (t := (.array .int)) (t' := (.array (.array .int))) (by decide) (by decide))))) (Or.inl (Ne.symm ne125)))) (Or.inl (Ne.symm ne125)))) (Or.inl (Ne.symm ne125)))) (Or.inl (Ne.symm ne125))))) (Or.inr (slot_ne (Or.inr (hw _ (List.mem_of_getElem? (i := 58) rfl))) (Or.inr (hw _ (List.mem_of_getElem? (i := 50) rfl))) (by decide) (t := (.array .int)) (t' := (.array .int)) (by decide) (by decide))))) (Or.inr (slot_ne (Or.inr (hw _ (List.mem_of_getElem? (i := 58) rfl))) (Or.inr (hw _ (List.mem_of_getElem? (i := 52) rfl))) (by decide) (t := (.array .int)) (t' := (.array .int)) (by decide) (by decide))))) (Or.inr (slot_ne (Or.inr (hw _ (List.mem_of_getElem? (i := 58) rfl))) (Or.inr (hw _ (List.mem_of_getElem? (i := 54) rfl))) (by decide) (t := (.array .int)) (t' := (.array .int)) (by decide) (by decide))))) (Or.inr (slot_ne (Or.inr (hw _ (List.mem_of_getElem? (i := 58) rfl))) (Or.inr (hw _ (List.mem_of_getElem? (i := 56) rfl))) (by decide) (t := (.array .int)) (t' := (.array .int)) (by decide) (by decide)))))
  have c192 : Exa Z h188 r "com/example/opacheck/opacheck/PrecedenceTraversal" := (Exa.ext E188 (Exa.wr W185 c187))
  refine Go.putF (pc' := 230) (host := "") (ty := (.array .int)) C X188 (Or.inl (hw _ (List.mem_of_getElem? (i := 57) rfl))) Via.refl e188 c191 c192 (Or.inr ⟨(hw _ (List.mem_of_getElem? (i := 58) rfl)), rfl, rfl⟩) (hw _ (List.mem_of_getElem? (i := 18) rfl)) (by decide) rfl rfl d3_227 rfl ?_
  intro T190 h190 X190 e190 W190 F190
  have N190 := Fr.snoc X190 N185 hn
  have K193 : Keep h0 h190 [r] := (((((((((((((((((((((((((Keep.refl h0 [r]).trans K105 all0).wr W106 (Or.inl (by simp))).ext E109).ext E114).wr W116 (Or.inl (by simp))).ext E123).wr W127 (Or.inr z_b114)).ext E133).wr W136 (Or.inr z_b114)).ext E141).wr W144 (Or.inr z_b114)).ext E149).wr W152 (Or.inr z_b114)).ext E154).ext E160).wr W162 (Or.inl (by simp))).ext E165).wr W167 (Or.inl (by simp))).ext E175).wr W177 (Or.inl (by simp))).ext E183).wr W185 (Or.inl (by simp))).ext E188).wr W190 (Or.inl (by simp)))
  have c194 : Fld Z h190 r "com/example/opacheck/opacheck/PrecedenceTraversal" "visitedIn" "[I" (.ref b160) := (Fld.other W190 (Fld.ext E188 (Fld.other W185 (Fld.ext E183 (Fld.other W177 (Fld.ext E175 (Fld.other W167 (Fld.ext E165 F162) (Or.inr (slot_ne (Or.inr (hw _ (List.mem_of_getElem? (i := 50) rfl))) (Or.inr (hw _ (List.mem_of_getElem? (i := 52) rfl))) (by decide) (t := (.array .int)) (t' := (.array .int)) (by decide) (by decide))))) (Or.inr (slot_ne (Or.inr (hw _ (List.mem_of_getElem? (i := 50) rfl))) (Or.inr (hw _ (List.mem_of_getElem? (i := 54) rfl))) (by decide) (t := (.array .int)) (t' := (.array .int)) (by decide) (by decide))))) (Or.inr (slot_ne (Or.inr (hw _ (List.mem_of_getElem? (i := 50) rfl))) (Or.inr (hw _ (List.mem_of_getElem? (i := 56) rfl))) (by decide) (t := (.array .int)) (t' := (.array .int)) (by decide) (by decide))))) (Or.inr (slot_ne (Or.inr (hw _ (List.mem_of_getElem? (i := 50) rfl))) (Or.inr (hw _ (List.mem_of_getElem? (i := 58) rfl))) (by decide) (t := (.array .int)) (t' := (.array .int)) (by decide) (by decide))))
  have ne195 : b160 ≠ r := (Nat.ne_of_gt (Nat.lt_of_lt_of_le E0.lt (Nat.le_trans (Nat.le_trans (Nat.le_trans (Nat.le_trans (Nat.le_trans (Nat.le_trans (Nat.le_trans (Nat.le_trans (Nat.le_trans (Nat.le_trans (Nat.le_trans (Nat.le_trans (Nat.le_trans (Nat.le_trans (Nat.le_trans (Nat.le_refl _) K105.1) (Nat.le_of_eq W106.size.symm)) E109.1) E114.1) (Nat.le_of_eq W116.size.symm)) E123.1) (Nat.le_of_eq W127.size.symm)) E133.1) (Nat.le_of_eq W136.size.symm)) E141.1) (Nat.le_of_eq W144.size.symm)) E149.1) (Nat.le_of_eq W152.size.symm)) E154.1) (Nat.le_of_eq g160.symm))))
  have c196 : AL Z h190 b160 k160 .int [(.int (0 : Int32)), (.int (0 : Int32)), (.int (0 : Int32)), (.int (0 : Int32))] := (AL.other W190 (AL.ext E188 (AL.other W185 (AL.ext E183 (AL.other W177 (AL.ext E175 (AL.other W167 (AL.ext E165 (AL.other W162 A160 ne195)) ne195)) ne195)) ne195)) ne195)
  have c197 : Fld Z h190 r "com/example/opacheck/opacheck/PrecedenceTraversal" "positions" "[I" (.ref b165) := (Fld.other W190 (Fld.ext E188 (Fld.other W185 (Fld.ext E183 (Fld.other W177 (Fld.ext E175 F167) (Or.inr (slot_ne (Or.inr (hw _ (List.mem_of_getElem? (i := 52) rfl))) (Or.inr (hw _ (List.mem_of_getElem? (i := 54) rfl))) (by decide) (t := (.array .int)) (t' := (.array .int)) (by decide) (by decide))))) (Or.inr (slot_ne (Or.inr (hw _ (List.mem_of_getElem? (i := 52) rfl))) (Or.inr (hw _ (List.mem_of_getElem? (i := 56) rfl))) (by decide) (t := (.array .int)) (t' := (.array .int)) (by decide) (by decide))))) (Or.inr (slot_ne (Or.inr (hw _ (List.mem_of_getElem? (i := 52) rfl))) (Or.inr (hw _ (List.mem_of_getElem? (i := 58) rfl))) (by decide) (t := (.array .int)) (t' := (.array .int)) (by decide) (by decide))))
  have ne198 : b165 ≠ r := (Nat.ne_of_gt (Nat.lt_of_lt_of_le E0.lt (Nat.le_trans (Nat.le_trans (Nat.le_trans (Nat.le_trans (Nat.le_trans (Nat.le_trans (Nat.le_trans (Nat.le_trans (Nat.le_trans (Nat.le_trans (Nat.le_trans (Nat.le_trans (Nat.le_trans (Nat.le_trans (Nat.le_trans (Nat.le_trans (Nat.le_trans (Nat.le_refl _) K105.1) (Nat.le_of_eq W106.size.symm)) E109.1) E114.1) (Nat.le_of_eq W116.size.symm)) E123.1) (Nat.le_of_eq W127.size.symm)) E133.1) (Nat.le_of_eq W136.size.symm)) E141.1) (Nat.le_of_eq W144.size.symm)) E149.1) (Nat.le_of_eq W152.size.symm)) E154.1) E160.1) (Nat.le_of_eq W162.size.symm)) (Nat.le_of_eq g165.symm))))
  have c199 : AL Z h190 b165 k165 .int [(.int (0 : Int32)), (.int (0 : Int32)), (.int (0 : Int32)), (.int (0 : Int32))] := (AL.other W190 (AL.ext E188 (AL.other W185 (AL.ext E183 (AL.other W177 (AL.ext E175 (AL.other W167 A165 ne198)) ne198)) ne198)) ne198)
  have c200 : Fld Z h190 r "com/example/opacheck/opacheck/PrecedenceTraversal" "number" "I" (.int (0 : Int32)) := (Fld.other W190 (Fld.ext E188 (Fld.other W185 (Fld.ext E183 (Fld.other W177 (Fld.ext E175 (Fld.other W167 (Fld.ext E165 (Fld.other W162 (Fld.ext E160 (Fld.ext E154 (Fld.other W152 (Fld.ext E149 (Fld.other W144 (Fld.ext E141 (Fld.other W136 (Fld.ext E133 (Fld.other W127 (Fld.ext E123 (Fld.other W116 (Fld.ext E114 (Fld.ext E109 (Fld.other W106 (Fld.keep Fnum K105 nin0) (Or.inr (slot_ne (Or.inl (hw _ (List.mem_of_getElem? (i := 65) rfl))) (Or.inr (hw _ (List.mem_of_getElem? (i := 41) rfl))) (by decide) (t := .int) (t' := (.array .int)) (by decide) (by decide)))))) (Or.inr (slot_ne (Or.inl (hw _ (List.mem_of_getElem? (i := 65) rfl))) (Or.inr (hw _ (List.mem_of_getElem? (i := 47) rfl))) (by decide) (t := .int) (t' := (.array (.array .int))) (by decide) (by decide))))) (Or.inl (Ne.symm ne125)))) (Or.inl (Ne.symm ne125)))) (Or.inl (Ne.symm ne125)))) (Or.inl (Ne.symm ne125))))) (Or.inr (slot_ne (Or.inl (hw _ (List.mem_of_getElem? (i := 65) rfl))) (Or.inr (hw _ (List.mem_of_getElem? (i := 50) rfl))) (by decide) (t := .int) (t' := (.array .int)) (by decide) (by decide))))) (Or.inr (slot_ne (Or.inl (hw _ (List.mem_of_getElem? (i := 65) rfl))) (Or.inr (hw _ (List.mem_of_getElem? (i := 52) rfl))) (by decide) (t := .int) (t' := (.array .int)) (by decide) (by decide))))) (Or.inr (slot_ne (Or.inl (hw _ (List.mem_of_getElem? (i := 65) rfl))) (Or.inr (hw _ (List.mem_of_getElem? (i := 54) rfl))) (by decide) (t := .int) (t' := (.array .int)) (by decide) (by decide))))) (Or.inr (slot_ne (Or.inl (hw _ (List.mem_of_getElem? (i := 65) rfl))) (Or.inr (hw _ (List.mem_of_getElem? (i := 56) rfl))) (by decide) (t := .int) (t' := (.array .int)) (by decide) (by decide))))) (Or.inr (slot_ne (Or.inl (hw _ (List.mem_of_getElem? (i := 65) rfl))) (Or.inr (hw _ (List.mem_of_getElem? (i := 58) rfl))) (by decide) (t := .int) (t' := (.array .int)) (by decide) (by decide))))
  have c201 : Fld Z h190 r "com/example/opacheck/opacheck/PrecedenceTraversal" "scope" "Ljava/util/function/IntPredicate;" .null := (Fld.other W190 (Fld.ext E188 (Fld.other W185 (Fld.ext E183 (Fld.other W177 (Fld.ext E175 (Fld.other W167 (Fld.ext E165 (Fld.other W162 (Fld.ext E160 (Fld.ext E154 (Fld.other W152 (Fld.ext E149 (Fld.other W144 (Fld.ext E141 (Fld.other W136 (Fld.ext E133 (Fld.other W127 (Fld.ext E123 (Fld.other W116 (Fld.ext E114 (Fld.ext E109 (Fld.other W106 (Fld.keep Fsc K105 nin0) (Or.inr (slot_ne (Or.inl (hw _ (List.mem_of_getElem? (i := 67) rfl))) (Or.inr (hw _ (List.mem_of_getElem? (i := 41) rfl))) (by decide) (t := (.object "java/util/function/IntPredicate")) (t' := (.array .int)) (by decide) (by decide)))))) (Or.inr (slot_ne (Or.inl (hw _ (List.mem_of_getElem? (i := 67) rfl))) (Or.inr (hw _ (List.mem_of_getElem? (i := 47) rfl))) (by decide) (t := (.object "java/util/function/IntPredicate")) (t' := (.array (.array .int))) (by decide) (by decide))))) (Or.inl (Ne.symm ne125)))) (Or.inl (Ne.symm ne125)))) (Or.inl (Ne.symm ne125)))) (Or.inl (Ne.symm ne125))))) (Or.inr (slot_ne (Or.inl (hw _ (List.mem_of_getElem? (i := 67) rfl))) (Or.inr (hw _ (List.mem_of_getElem? (i := 50) rfl))) (by decide) (t := (.object "java/util/function/IntPredicate")) (t' := (.array .int)) (by decide) (by decide))))) (Or.inr (slot_ne (Or.inl (hw _ (List.mem_of_getElem? (i := 67) rfl))) (Or.inr (hw _ (List.mem_of_getElem? (i := 52) rfl))) (by decide) (t := (.object "java/util/function/IntPredicate")) (t' := (.array .int)) (by decide) (by decide))))) (Or.inr (slot_ne (Or.inl (hw _ (List.mem_of_getElem? (i := 67) rfl))) (Or.inr (hw _ (List.mem_of_getElem? (i := 54) rfl))) (by decide) (t := (.object "java/util/function/IntPredicate")) (t' := (.array .int)) (by decide) (by decide))))) (Or.inr (slot_ne (Or.inl (hw _ (List.mem_of_getElem? (i := 67) rfl))) (Or.inr (hw _ (List.mem_of_getElem? (i := 56) rfl))) (by decide) (t := (.object "java/util/function/IntPredicate")) (t' := (.array .int)) (by decide) (by decide))))) (Or.inr (slot_ne (Or.inl (hw _ (List.mem_of_getElem? (i := 67) rfl))) (Or.inr (hw _ (List.mem_of_getElem? (i := 58) rfl))) (by decide) (t := (.object "java/util/function/IntPredicate")) (t' := (.array .int)) (by decide) (by decide))))
  have ne202 : b160 ≠ b165 := Nat.ne_of_lt (Nat.lt_of_lt_of_le A160.lt (Nat.le_trans (Nat.le_trans (Nat.le_refl _) (Nat.le_of_eq W162.size.symm)) (Nat.le_of_eq g165.symm)))
  exact Go.retV C X190 rfl d3_230 (by rw [e190]; exact ⟨b160, k160, b165, k165, rfl, N190, K193, z_b160, z_b165, c194, c196, c197, c199, c200, c201, ne202⟩) (by decide) (by decide)
def Q_ct5 (Z : State) (r : Addr) (q : Addr) (v : Addr) (k : ClassId) (h0 : Heap) (rv : Option Value) (h : Heap) (L : List Loc) : Prop := ∃ vi : Addr, ∃ ki : ClassId, ∃ vp : Addr, ∃ kp : ClassId, rv = none ∧ Fr Z.heap.size L ∧ Keep h0 h [r] ∧ h0.size ≤ vi ∧ h0.size ≤ vp ∧ Fld Z h r "com/example/opacheck/opacheck/PrecedenceTraversal" "visitedIn" "[I" (.ref vi) ∧ AL Z h vi ki .int [(.int (0 : Int32)), (.int (0 : Int32)), (.int (0 : Int32)), (.int (0 : Int32)), (.int (0 : Int32))] ∧ Fld Z h r "com/example/opacheck/opacheck/PrecedenceTraversal" "positions" "[I" (.ref vp) ∧ AL Z h vp kp .int [(.int (0 : Int32)), (.int (0 : Int32)), (.int (0 : Int32)), (.int (0 : Int32)), (.int (0 : Int32))] ∧ Fld Z h r "com/example/opacheck/opacheck/PrecedenceTraversal" "number" "I" (.int (0 : Int32)) ∧ Fld Z h r "com/example/opacheck/opacheck/PrecedenceTraversal" "scope" "Ljava/util/function/IntPredicate;" .null ∧ vi ≠ vp
set_option maxRecDepth 65536 in
set_option maxHeartbeats 40000000 in
theorem rm_ct5 (l : Launch) (Z : State) (a0 : Array Value) (hw : ∀ d ∈ tables_1, d.before a0 Z = true) (r : Addr) (q : Addr) (v : Addr) (k : ClassId) (h0 : Heap) (O0 : Ext Z.heap h0) (E0 : Exa Z h0 r "com/example/opacheck/opacheck/PrecedenceTraversal") (Fmembers : Fld Z h0 r "com/example/opacheck/opacheck/PrecedenceTraversal" "members" "[I" .null) (Franges : Fld Z h0 r "com/example/opacheck/opacheck/PrecedenceTraversal" "ranges" "[[I" .null) (FvisitedIn : Fld Z h0 r "com/example/opacheck/opacheck/PrecedenceTraversal" "visitedIn" "[I" .null) (Fpositions : Fld Z h0 r "com/example/opacheck/opacheck/PrecedenceTraversal" "positions" "[I" .null) (Flinks : Fld Z h0 r "com/example/opacheck/opacheck/PrecedenceTraversal" "links" "[I" .null) (FlinkedIn : Fld Z h0 r "com/example/opacheck/opacheck/PrecedenceTraversal" "linkedIn" "[I" .null) (Fpath : Fld Z h0 r "com/example/opacheck/opacheck/PrecedenceTraversal" "path" "[I" .null) (Fnum : Fld Z h0 r "com/example/opacheck/opacheck/PrecedenceTraversal" "number" "I" (.int (0 : Int32))) (Fsc : Fld Z h0 r "com/example/opacheck/opacheck/PrecedenceTraversal" "scope" "Ljava/util/function/IntPredicate;" .null) (Gm : Fld Z h0 q "com/example/opacheck/opacheck/PrecedenceTraversal$Neighbours" "members" "[I" (.ref v)) (Am : AL Z h0 v k .int [(.int (0 : Int32)), (.int (0 : Int32)), (.int (0 : Int32)), (.int (0 : Int32)), (.int (0 : Int32)), (.int (0 : Int32)), (.int (0 : Int32)), (.int (0 : Int32)), (.int (0 : Int32)), (.int (0 : Int32)), (.int (0 : Int32)), (.int (0 : Int32)), (.int (0 : Int32)), (.int (0 : Int32)), (.int (0 : Int32)), (.int (0 : Int32))]) (Gs : Fld Z h0 q "com/example/opacheck/opacheck/PrecedenceTraversal$Neighbours" "size" "I" (.int (0 : Int32))) (Gr : Fld Z h0 q "com/example/opacheck/opacheck/PrecedenceTraversal$Neighbours" "rangesSize" "I" (.int (0 : Int32))) (Gc : Fld Z h0 q "com/example/opacheck/opacheck/PrecedenceTraversal$Neighbours" "count" "I" (.int (5 : Int32))) (hn : Z.heap.size ≤ r) (hne : r ≠ q) (hnv : r ≠ v) :
    Met1 l Z (⟨"com/example/opacheck/opacheck/PrecedenceTraversal", "<init>", "(Lcom/example/opacheck/opacheck/PrecedenceTraversal$Neighbours;)V"⟩ : MethodName) prog_45_method_2_code 7 none ({ frames := 2, cells := 17, slots := 50, locals := 33 } : Room) #[(.ref r), (.ref q)] h0 (Q_ct5 Z r q v k h0) := by
  refine Met1.of_body (Ls := #[.val (.ref r), .val (.ref q), .unset, .unset, .unset, .unset, .unset]) pf_3 (fun m => by first | (simp [entryFrame, mkF, argsToLocals, Value.category]; done) | rfl) ?_
  intro p e s m below meth c T0 C X0 e0
  have N0 : Fr Z.heap.size [] := Fr.nil _
  refine Go.aloadN (pc' := 1) C X0 d3_0 rfl rfl rfl ?_
  refine Go.initO (pc' := 4) (W := 0) C X0 (hw _ (List.mem_of_getElem? (i := 23) rfl)) (hw _ (List.mem_of_getElem? (i := 8) rfl)) (hw _ (List.mem_of_getElem? (i := 9) rfl)) e0 rfl (by decide) (Nat.le_of_eq rfl) (by decide) d3_1 rfl ?_
  intro T101 X101 e101
  refine Go.aloadN (pc' := 5) C X101 d3_4 rfl rfl rfl ?_
  refine Go.getFR (pc' := 8) C X101 (hw _ (List.mem_of_getElem? (i := 24) rfl)) e101 Gc d3_5 rfl ?_
  refine Go.istoreN (Ls' := #[.val (.ref r), .val (.ref q), .val (.int (5 : Int32)), .unset, .unset, .unset, .unset]) (pc' := 9) C X101 d3_8 rfl rfl ?_
  refine Go.aloadN (pc' := 10) C X101 d3_9 rfl rfl rfl ?_
  refine Go.aloadN (pc' := 11) C X101 d3_10 rfl rfl rfl ?_
  refine Go.getFR (pc' := 14) C X101 (hw _ (List.mem_of_getElem? (i := 25) rfl)) e101 Gm d3_11 rfl ?_
  refine Go.aloadN (pc' := 15) C X101 d3_14 rfl rfl rfl ?_
  refine Go.getFR (pc' := 18) C X101 (hw _ (List.mem_of_getElem? (i := 26) rfl)) e101 Gs d3_15 rfl ?_
  refine Go.callS (y := (⟨"java/util/Arrays", "copyOf", "([II)[I"⟩ : MethodName)) (pc' := 21) C X101 (hw _ (List.mem_of_getElem? (i := 28) rfl)) (hw _ (List.mem_of_getElem? (i := 29) rfl)) (by decide) (rm_cpy l Z a0 hw v k h0 O0 Am) (hw _ (List.mem_of_getElem? (i := 31) rfl)) (hw _ (List.mem_of_getElem? (i := 30) rfl)) e101 (argsL := [(.ref v), (.int (0 : Int32))]) (rest := [(.ref r)]) (W := 1) rfl rfl pd_1 rfl (Nat.le_of_eq rfl) rfl (by decide) (by decide) (by decide) (by decide) d3_18 rfl ?_
  intro T105 v105 L105 X105 q105
  obtain ⟨b_105, kb_105, rfl, N105q, K105, B105_0, P105_0⟩ := q105
  have N105 := Fr.app N0 N105q
  have n_b_105 : Z.heap.size ≤ b_105 := Nat.le_trans O0.1 B105_0
  have z_b_105 : h0.size ≤ b_105 := Nat.le_trans (Nat.le_refl _) B105_0
  have c107 : Fld Z T105.heap r "com/example/opacheck/opacheck/PrecedenceTraversal" "members" "[I" .null := (Fld.keep Fmembers K105 nin0)
  have c108 : Exa Z T105.heap r "com/example/opacheck/opacheck/PrecedenceTraversal" := (Exa.keep E0 K105)
  refine Go.putF (pc' := 24) (host := "") (ty := (.array .int)) C X105 (Or.inl (hw _ (List.mem_of_getElem? (i := 40) rfl))) Via.refl rfl c107 c108 (Or.inr ⟨(hw _ (List.mem_of_getElem? (i := 41) rfl)), rfl, rfl⟩) (hw _ (List.mem_of_getElem? (i := 18) rfl)) (by decide) rfl rfl d3_21 rfl ?_
  intro T106 h106 X106 e106 W106 F106
  have N106 := Fr.snoc X106 N105 hn
  refine Go.iloadN (pc' := 25) C X106 d3_24 rfl rfl ?_
  have O110 : Ext Z.heap h106 := (Ext.wr (Ext.keep O0 K105 all0) W106 hn)
  refine Go.newP (aty := .int) (cap := 5) (vs := [(.int (0 : Int32)), (.int (0 : Int32)), (.int (0 : Int32)), (.int (0 : Int32)), (.int (0 : Int32))]) (ad := "[I") (pc' := 27) C X106 (by decide) (hw _ (List.mem_of_getElem? (i := 10) rfl)) e106 (by decide) (by decide) (by decide) (by decide) (by decide) rfl d3_25 rfl ?_
  intro T109 h109 b109 k109 X109 e109 g109 E109 A109 Ea109
  have n_b109 : Z.heap.size ≤ b109 := Nat.le_trans O110.1 (Nat.le_of_eq g109.symm)
  have z_b109 : h0.size ≤ b109 := Nat.le_trans (Nat.le_trans (Nat.le_trans (Nat.le_refl _) K105.1) (Nat.le_of_eq W106.size.symm)) (Nat.le_of_eq g109.symm)
  have A109 : AL Z h109 b109 k109 .int [(.int (0 : Int32)), (.int (0 : Int32)), (.int (0 : Int32)), (.int (0 : Int32)), (.int (0 : Int32))] := A109
  refine Go.astoreN (Ls' := #[.val (.ref r), .val (.ref q), .val (.int (5 : Int32)), .val (.ref b109), .unset, .unset, .unset]) (pc' := 28) C X109 d3_27 rfl rfl rfl ?_
  refine Go.iconst (z := (0 : Int32)) (pc' := 29) C X109 d3_28 rfl rfl ?_
  refine Go.istore (Ls' := #[.val (.ref r), .val (.ref q), .val (.int (5 : Int32)), .val (.ref b109), .val (.int (0 : Int32)), .unset, .unset]) (pc' := 31) C X109 d3_29 rfl rfl ?_
  refine Go.iload (pc' := 33) C X109 d3_31 rfl rfl ?_
  refine Go.aloadN (pc' := 34) C X109 d3_33 rfl rfl rfl ?_
  have c112 : Fld Z h109 q "com/example/opacheck/opacheck/PrecedenceTraversal$Neighbours" "rangesSize" "I" (.int (0 : Int32)) := (Fld.ext E109 (Fld.other W106 (Fld.keep Gr K105 nin0) (Or.inl (Ne.symm hne))))
  refine Go.getFR (pc' := 37) C X109 (hw _ (List.mem_of_getElem? (i := 42) rfl)) e109 c112 d3_34 rfl ?_
  refine Go.icmpYes (pc' := 59) C X109 d3_37 (flt (x := (0 : Int32)) (y := (0 : Int32)) (by decide)).2.1 (by decide) (by decide) ?_
  refine Go.aloadN (pc' := 60) C X109 d3_59 rfl rfl rfl ?_
  refine Go.iloadN (pc' := 61) C X109 d3_60 rfl rfl ?_
  have O115 : Ext Z.heap h109 := (Ext.trans O110 E109)
  refine Go.newRA (ty := .int) (cap := 5) (vs := [.null, .null, .null, .null, .null]) (ad := "[[I") (pc' := 64) C X109 (by decide) (by decide) (hw _ (List.mem_of_getElem? (i := 44) rfl)) (hw _ (List.mem_of_getElem? (i := 45) rfl)) e109 (by decide) (by decide) (by decide) (by decide) (by decide) rfl d3_61 rfl ?_
  intro T114 h114 b114 k114 X114 e114 g114 E114 A114 Ea114 O114v
  have n_b114 : Z.heap.size ≤ b114 := Nat.le_trans O115.1 (Nat.le_of_eq g114.symm)
  have z_b114 : h0.size ≤ b114 := Nat.le_trans (Nat.le_trans (Nat.le_trans (Nat.le_trans (Nat.le_refl _) K105.1) (Nat.le_of_eq W106.size.symm)) E109.1) (Nat.le_of_eq g114.symm)
  have A114 : AL Z h114 b114 k114 (.array .int) [.null, .null, .null, .null, .null] := A114
  have c117 : Fld Z h114 r "com/example/opacheck/opacheck/PrecedenceTraversal" "ranges" "[[I" .null := (Fld.ext E114 (Fld.ext E109 (Fld.other W106 (Fld.keep Franges K105 nin0) (Or.inr (slot_ne (Or.inr (hw _ (List.mem_of_getElem? (i := 47) rfl))) (Or.inr (hw _ (List.mem_of_getElem? (i := 41) rfl))) (by decide) (t := (.array (.array .int))) (t' := (.array .int)) (by decide) (by decide))))))
  have c118 : Exa Z h114 r "com/example/opacheck/opacheck/PrecedenceTraversal" := (Exa.ext E114 (Exa.ext E109 (Exa.wr W106 c108)))
  refine Go.putF (pc' := 67) (host := "") (ty := (.array (.array .int))) C X114 (Or.inl (hw _ (List.mem_of_getElem? (i := 46) rfl))) Via.refl e114 c117 c118 (Or.inr ⟨(hw _ (List.mem_of_getElem? (i := 47) rfl)), rfl, rfl⟩) (hw _ (List.mem_of_getElem? (i := 18) rfl)) (by decide) rfl rfl d3_64 rfl ?_
  intro T116 h116 X116 e116 W116 F116
  have N116 := Fr.snoc X116 N106 hn
  refine Go.iconst (z := (0 : Int32)) (pc' := 68) C X116 d3_67 rfl rfl ?_
  refine Go.istore (Ls' := #[.val (.ref r), .val (.ref q), .val (.int (5 : Int32)), .val (.ref b109), .val (.int (0 : Int32)), .unset, .unset]) (pc' := 70) C X116 d3_68 rfl rfl ?_
  refine Go.iload (pc' := 72) C X116 d3_70 rfl rfl ?_
  refine Go.iloadN (pc' := 73) C X116 d3_72 rfl rfl ?_
  refine Go.icmpNo (pc' := 76) C X116 d3_73 (tlt (x := (0 : Int32)) (y := (5 : Int32)) (by decide)).2.1 rfl ?_
  refine Go.aloadN (pc' := 77) C X116 d3_76 rfl rfl rfl ?_
  refine Go.getF (pc' := 80) (host := "") C X116 (Or.inl (hw _ (List.mem_of_getElem? (i := 46) rfl))) Via.refl e116 F116 d3_77 rfl ?_
  intro T120 X120 e120
  refine Go.iload (pc' := 82) C X120 d3_80 rfl rfl ?_
  refine Go.iconst (z := (2 : Int32)) (pc' := 83) C X120 d3_82 rfl rfl ?_
  refine Go.aloadN (pc' := 84) C X120 d3_83 rfl rfl rfl ?_
  refine Go.iload (pc' := 86) C X120 d3_84 rfl rfl ?_
  have ne121 : b109 ≠ r := (Nat.ne_of_gt (Nat.lt_of_lt_of_le E0.lt (Nat.le_trans (Nat.le_trans (Nat.le_trans (Nat.le_refl _) K105.1) (Nat.le_of_eq W106.size.symm)) (Nat.le_of_eq g109.symm))))
  have c122 : AL Z h116 b109 k109 .int [(.int (0 : Int32)), (.int (0 : Int32)), (.int (0 : Int32)), (.int (0 : Int32)), (.int (0 : Int32))] := (AL.other W116 (AL.ext E114 A109) ne121)
  refine Go.ldI (i := 0) (v := (.int (0 : Int32))) (pc' := 87) C X120 e120 c122 (by decide) (by decide) rfl d3_86 rfl ?_
  refine Go.imul (pc' := 88) C X120 d3_87 rfl ?_
  rw [show ((2 : Int32) * (0 : Int32)) = (0 : Int32) from by decide]
  have O124 : Ext Z.heap h116 := (Ext.wr (Ext.trans O115 E114) W116 hn)
  refine Go.newP (aty := .int) (cap := 0) (vs := []) (ad := "[I") (pc' := 90) C X120 (by decide) (hw _ (List.mem_of_getElem? (i := 10) rfl)) e120 (by decide) (by decide) (by decide) (by decide) (by decide) rfl d3_88 rfl ?_
  intro T123 h123 b123 k123 X123 e123 g123 E123 A123 Ea123
  have n_b123 : Z.heap.size ≤ b123 := Nat.le_trans O124.1 (Nat.le_of_eq g123.symm)
  have z_b123 : h0.size ≤ b123 := Nat.le_trans (Nat.le_trans (Nat.le_trans (Nat.le_trans (Nat.le_trans (Nat.le_trans (Nat.le_refl _) K105.1) (Nat.le_of_eq W106.size.symm)) E109.1) E114.1) (Nat.le_of_eq W116.size.symm)) (Nat.le_of_eq g123.symm)
  have A123 : AL Z h123 b123 k123 .int [] := A123
  have ne125 : b114 ≠ r := (Nat.ne_of_gt (Nat.lt_of_lt_of_le E0.lt (Nat.le_trans (Nat.le_trans (Nat.le_trans (Nat.le_trans (Nat.le_refl _) K105.1) (Nat.le_of_eq W106.size.symm)) E109.1) (Nat.le_of_eq g114.symm))))
  have c126 : AL Z h123 b114 k114 (.array .int) [.null, .null, .null, .null, .null] := (AL.ext E123 (AL.other W116 A114 ne125))
  refine Go.stR (i := 0) (vs' := [(.ref b123), .null, .null, .null, .null]) (pc' := 91) C X123 e123 c126 (by decide) (by decide) (by simp) rfl (AL.stoA c126 O114v (Ins.self Ea123)) rfl d3_90 rfl ?_
  intro T127 h127 X127 e127 W127 A127
  have N127 := Fr.snoc X127 N116 n_b114
  refine Go.iinc (Ls' := #[.val (.ref r), .val (.ref q), .val (.int (5 : Int32)), .val (.ref b109), .val (.int ((0 : Int32) + (1 : Int32))), .unset, .unset]) (z := (1 : Int32)) (pc' := 94) C X127 d3_91 rfl rfl rfl rfl ?_
  rw [show ((0 : Int32) + (1 : Int32)) = (1 : Int32) from by decide]
  refine Go.goto (pc' := 70) C X127 d3_94 (by decide) (by decide) ?_
  refine Go.iload (pc' := 72) C X127 d3_70 rfl rfl ?_
  refine Go.iloadN (pc' := 73) C X127 d3_72 rfl rfl ?_
  refine Go.icmpNo (pc' := 76) C X127 d3_73 (tlt (x := (1 : Int32)) (y := (5 : Int32)) (by decide)).2.1 rfl ?_
  refine Go.aloadN (pc' := 77) C X127 d3_76 rfl rfl rfl ?_
  have c130 : Fld Z h127 r "com/example/opacheck/opacheck/PrecedenceTraversal" "ranges" "[[I" (.ref b114) := (Fld.other W127 (Fld.ext E123 F116) (Or.inl (Ne.symm ne125)))
  refine Go.getF (pc' := 80) (host := "") C X127 (Or.inl (hw _ (List.mem_of_getElem? (i := 46) rfl))) Via.refl e127 c130 d3_77 rfl ?_
  intro T129 X129 e129
  refine Go.iload (pc' := 82) C X129 d3_80 rfl rfl ?_
  refine Go.iconst (z := (2 : Int32)) (pc' := 83) C X129 d3_82 rfl rfl ?_
  refine Go.aloadN (pc' := 84) C X129 d3_83 rfl rfl rfl ?_
  refine Go.iload (pc' := 86) C X129 d3_84 rfl rfl ?_
  have ne131 : b109 ≠ b114 := Nat.ne_of_lt (Nat.lt_of_lt_of_le A109.lt (Nat.le_trans (Nat.le_refl _) (Nat.le_of_eq g114.symm)))
  have c132 : AL Z h127 b109 k109 .int [(.int (0 : Int32)), (.int (0 : Int32)), (.int (0 : Int32)), (.int (0 : Int32)), (.int (0 : Int32))] := (AL.other W127 (AL.ext E123 c122) ne131)
  refine Go.ldI (i := 1) (v := (.int (0 : Int32))) (pc' := 87) C X129 e129 c132 (by decide) (by decide) rfl d3_86 rfl ?_
  refine Go.imul (pc' := 88) C X129 d3_87 rfl ?_
  rw [show ((2 : Int32) * (0 : Int32)) = (0 : Int32) from by decide]
  have O134 : Ext Z.heap h127 := (Ext.wr (Ext.trans O124 E123) W127 n_b114)
  refine Go.newP (aty := .int) (cap := 0) (vs := []) (ad := "[I") (pc' := 90) C X129 (by decide) (hw _ (List.mem_of_getElem? (i := 10) rfl)) e129 (by decide) (by decide) (by decide) (by decide) (by decide) rfl d3_88 rfl ?_
  intro T133 h133 b133 k133 X133 e133 g133 E133 A133 Ea133
  have n_b133 : Z.heap.size ≤ b133 := Nat.le_trans O134.1 (Nat.le_of_eq g133.symm)
  have z_b133 : h0.size ≤ b133 := Nat.le_trans (Nat.le_trans (Nat.le_trans (Nat.le_trans (Nat.le_trans (Nat.le_trans (Nat.le_trans (Nat.le_trans (Nat.le_refl _) K105.1) (Nat.le_of_eq W106.size.symm)) E109.1) E114.1) (Nat.le_of_eq W116.size.symm)) E123.1) (Nat.le_of_eq W127.size.symm)) (Nat.le_of_eq g133.symm)
  have A133 : AL Z h133 b133 k133 .int [] := A133
  have c135 : AL Z h133 b114 k114 (.array .int) [(.ref b123), .null, .null, .null, .null] := (AL.ext E133 A127)
  refine Go.stR (i := 1) (vs' := [(.ref b123), (.ref b133), .null, .null, .null]) (pc' := 91) C X133 e133 c135 (by decide) (by decide) (by simp) rfl (AL.stoA c135 O114v (Ins.self Ea133)) rfl d3_90 rfl ?_
  intro T136 h136 X136 e136 W136 A136
  have N136 := Fr.snoc X136 N127 n_b114
  refine Go.iinc (Ls' := #[.val (.ref r), .val (.ref q), .val (.int (5 : Int32)), .val (.ref b109), .val (.int ((1 : Int32) + (1 : Int32))), .unset, .unset]) (z := (1 : Int32)) (pc' := 94) C X136 d3_91 rfl rfl rfl rfl ?_
  rw [show ((1 : Int32) + (1 : Int32)) = (2 : Int32) from by decide]
  refine Go.goto (pc' := 70) C X136 d3_94 (by decide) (by decide) ?_
  refine Go.iload (pc' := 72) C X136 d3_70 rfl rfl ?_
  refine Go.iloadN (pc' := 73) C X136 d3_72 rfl rfl ?_
  refine Go.icmpNo (pc' := 76) C X136 d3_73 (tlt (x := (2 : Int32)) (y := (5 : Int32)) (by decide)).2.1 rfl ?_
  refine Go.aloadN (pc' := 77) C X136 d3_76 rfl rfl rfl ?_
  have c139 : Fld Z h136 r "com/example/opacheck/opacheck/PrecedenceTraversal" "ranges" "[[I" (.ref b114) := (Fld.other W136 (Fld.ext E133 c130) (Or.inl (Ne.symm ne125)))
  refine Go.getF (pc' := 80) (host := "") C X136 (Or.inl (hw _ (List.mem_of_getElem? (i := 46) rfl))) Via.refl e136 c139 d3_77 rfl ?_
  intro T138 X138 e138
  refine Go.iload (pc' := 82) C X138 d3_80 rfl rfl ?_
  refine Go.iconst (z := (2 : Int32)) (pc' := 83) C X138 d3_82 rfl rfl ?_
  refine Go.aloadN (pc' := 84) C X138 d3_83 rfl rfl rfl ?_
  refine Go.iload (pc' := 86) C X138 d3_84 rfl rfl ?_
  have c140 : AL Z h136 b109 k109 .int [(.int (0 : Int32)), (.int (0 : Int32)), (.int (0 : Int32)), (.int (0 : Int32)), (.int (0 : Int32))] := (AL.other W136 (AL.ext E133 c132) ne131)
  refine Go.ldI (i := 2) (v := (.int (0 : Int32))) (pc' := 87) C X138 e138 c140 (by decide) (by decide) rfl d3_86 rfl ?_
  refine Go.imul (pc' := 88) C X138 d3_87 rfl ?_
  rw [show ((2 : Int32) * (0 : Int32)) = (0 : Int32) from by decide]
  have O142 : Ext Z.heap h136 := (Ext.wr (Ext.trans O134 E133) W136 n_b114)
  refine Go.newP (aty := .int) (cap := 0) (vs := []) (ad := "[I") (pc' := 90) C X138 (by decide) (hw _ (List.mem_of_getElem? (i := 10) rfl)) e138 (by decide) (by decide) (by decide) (by decide) (by decide) rfl d3_88 rfl ?_
  intro T141 h141 b141 k141 X141 e141 g141 E141 A141 Ea141
  have n_b141 : Z.heap.size ≤ b141 := Nat.le_trans O142.1 (Nat.le_of_eq g141.symm)
  have z_b141 : h0.size ≤ b141 := Nat.le_trans (Nat.le_trans (Nat.le_trans (Nat.le_trans (Nat.le_trans (Nat.le_trans (Nat.le_trans (Nat.le_trans (Nat.le_trans (Nat.le_trans (Nat.le_refl _) K105.1) (Nat.le_of_eq W106.size.symm)) E109.1) E114.1) (Nat.le_of_eq W116.size.symm)) E123.1) (Nat.le_of_eq W127.size.symm)) E133.1) (Nat.le_of_eq W136.size.symm)) (Nat.le_of_eq g141.symm)
  have A141 : AL Z h141 b141 k141 .int [] := A141
  have c143 : AL Z h141 b114 k114 (.array .int) [(.ref b123), (.ref b133), .null, .null, .null] := (AL.ext E141 A136)
  refine Go.stR (i := 2) (vs' := [(.ref b123), (.ref b133), (.ref b141), .null, .null]) (pc' := 91) C X141 e141 c143 (by decide) (by decide) (by simp) rfl (AL.stoA c143 O114v (Ins.self Ea141)) rfl d3_90 rfl ?_
  intro T144 h144 X144 e144 W144 A144
  have N144 := Fr.snoc X144 N136 n_b114
  refine Go.iinc (Ls' := #[.val (.ref r), .val (.ref q), .val (.int (5 : Int32)), .val (.ref b109), .val (.int ((2 : Int32) + (1 : Int32))), .unset, .unset]) (z := (1 : Int32)) (pc' := 94) C X144 d3_91 rfl rfl rfl rfl ?_
  rw [show ((2 : Int32) + (1 : Int32)) = (3 : Int32) from by decide]
  refine Go.goto (pc' := 70) C X144 d3_94 (by decide) (by decide) ?_
  refine Go.iload (pc' := 72) C X144 d3_70 rfl rfl ?_
  refine Go.iloadN (pc' := 73) C X144 d3_72 rfl rfl ?_
  refine Go.icmpNo (pc' := 76) C X144 d3_73 (tlt (x := (3 : Int32)) (y := (5 : Int32)) (by decide)).2.1 rfl ?_
  refine Go.aloadN (pc' := 77) C X144 d3_76 rfl rfl rfl ?_
  have c147 : Fld Z h144 r "com/example/opacheck/opacheck/PrecedenceTraversal" "ranges" "[[I" (.ref b114) := (Fld.other W144 (Fld.ext E141 c139) (Or.inl (Ne.symm ne125)))
  refine Go.getF (pc' := 80) (host := "") C X144 (Or.inl (hw _ (List.mem_of_getElem? (i := 46) rfl))) Via.refl e144 c147 d3_77 rfl ?_
  intro T146 X146 e146
  refine Go.iload (pc' := 82) C X146 d3_80 rfl rfl ?_
  refine Go.iconst (z := (2 : Int32)) (pc' := 83) C X146 d3_82 rfl rfl ?_
  refine Go.aloadN (pc' := 84) C X146 d3_83 rfl rfl rfl ?_
  refine Go.iload (pc' := 86) C X146 d3_84 rfl rfl ?_
  have c148 : AL Z h144 b109 k109 .int [(.int (0 : Int32)), (.int (0 : Int32)), (.int (0 : Int32)), (.int (0 : Int32)), (.int (0 : Int32))] := (AL.other W144 (AL.ext E141 c140) ne131)
  refine Go.ldI (i := 3) (v := (.int (0 : Int32))) (pc' := 87) C X146 e146 c148 (by decide) (by decide) rfl d3_86 rfl ?_
  refine Go.imul (pc' := 88) C X146 d3_87 rfl ?_
  rw [show ((2 : Int32) * (0 : Int32)) = (0 : Int32) from by decide]
  have O150 : Ext Z.heap h144 := (Ext.wr (Ext.trans O142 E141) W144 n_b114)
  refine Go.newP (aty := .int) (cap := 0) (vs := []) (ad := "[I") (pc' := 90) C X146 (by decide) (hw _ (List.mem_of_getElem? (i := 10) rfl)) e146 (by decide) (by decide) (by decide) (by decide) (by decide) rfl d3_88 rfl ?_
  intro T149 h149 b149 k149 X149 e149 g149 E149 A149 Ea149
  have n_b149 : Z.heap.size ≤ b149 := Nat.le_trans O150.1 (Nat.le_of_eq g149.symm)
  have z_b149 : h0.size ≤ b149 := Nat.le_trans (Nat.le_trans (Nat.le_trans (Nat.le_trans (Nat.le_trans (Nat.le_trans (Nat.le_trans (Nat.le_trans (Nat.le_trans (Nat.le_trans (Nat.le_trans (Nat.le_trans (Nat.le_refl _) K105.1) (Nat.le_of_eq W106.size.symm)) E109.1) E114.1) (Nat.le_of_eq W116.size.symm)) E123.1) (Nat.le_of_eq W127.size.symm)) E133.1) (Nat.le_of_eq W136.size.symm)) E141.1) (Nat.le_of_eq W144.size.symm)) (Nat.le_of_eq g149.symm)
  have A149 : AL Z h149 b149 k149 .int [] := A149
  have c151 : AL Z h149 b114 k114 (.array .int) [(.ref b123), (.ref b133), (.ref b141), .null, .null] := (AL.ext E149 A144)
  refine Go.stR (i := 3) (vs' := [(.ref b123), (.ref b133), (.ref b141), (.ref b149), .null]) (pc' := 91) C X149 e149 c151 (by decide) (by decide) (by simp) rfl (AL.stoA c151 O114v (Ins.self Ea149)) rfl d3_90 rfl ?_
  intro T152 h152 X152 e152 W152 A152
  have N152 := Fr.snoc X152 N144 n_b114
  refine Go.iinc (Ls' := #[.val (.ref r), .val (.ref q), .val (.int (5 : Int32)), .val (.ref b109), .val (.int ((3 : Int32) + (1 : Int32))), .unset, .unset]) (z := (1 : Int32)) (pc' := 94) C X152 d3_91 rfl rfl rfl rfl ?_
  rw [show ((3 : Int32) + (1 : Int32)) = (4 : Int32) from by decide]
  refine Go.goto (pc' := 70) C X152 d3_94 (by decide) (by decide) ?_
  refine Go.iload (pc' := 72) C X152 d3_70 rfl rfl ?_
  refine Go.iloadN (pc' := 73) C X152 d3_72 rfl rfl ?_
  refine Go.icmpNo (pc' := 76) C X152 d3_73 (tlt (x := (4 : Int32)) (y := (5 : Int32)) (by decide)).2.1 rfl ?_
  refine Go.aloadN (pc' := 77) C X152 d3_76 rfl rfl rfl ?_
  have c155 : Fld Z h152 r "com/example/opacheck/opacheck/PrecedenceTraversal" "ranges" "[[I" (.ref b114) := (Fld.other W152 (Fld.ext E149 c147) (Or.inl (Ne.symm ne125)))
  refine Go.getF (pc' := 80) (host := "") C X152 (Or.inl (hw _ (List.mem_of_getElem? (i := 46) rfl))) Via.refl e152 c155 d3_77 rfl ?_
  intro T154 X154 e154
  refine Go.iload (pc' := 82) C X154 d3_80 rfl rfl ?_
  refine Go.iconst (z := (2 : Int32)) (pc' := 83) C X154 d3_82 rfl rfl ?_
  refine Go.aloadN (pc' := 84) C X154 d3_83 rfl rfl rfl ?_
  refine Go.iload (pc' := 86) C X154 d3_84 rfl rfl ?_
  have c156 : AL Z h152 b109 k109 .int [(.int (0 : Int32)), (.int (0 : Int32)), (.int (0 : Int32)), (.int (0 : Int32)), (.int (0 : Int32))] := (AL.other W152 (AL.ext E149 c148) ne131)
  refine Go.ldI (i := 4) (v := (.int (0 : Int32))) (pc' := 87) C X154 e154 c156 (by decide) (by decide) rfl d3_86 rfl ?_
  refine Go.imul (pc' := 88) C X154 d3_87 rfl ?_
  rw [show ((2 : Int32) * (0 : Int32)) = (0 : Int32) from by decide]
  have O158 : Ext Z.heap h152 := (Ext.wr (Ext.trans O150 E149) W152 n_b114)
  refine Go.newP (aty := .int) (cap := 0) (vs := []) (ad := "[I") (pc' := 90) C X154 (by decide) (hw _ (List.mem_of_getElem? (i := 10) rfl)) e154 (by decide) (by decide) (by decide) (by decide) (by decide) rfl d3_88 rfl ?_
  intro T157 h157 b157 k157 X157 e157 g157 E157 A157 Ea157
  have n_b157 : Z.heap.size ≤ b157 := Nat.le_trans O158.1 (Nat.le_of_eq g157.symm)
  have z_b157 : h0.size ≤ b157 := Nat.le_trans (Nat.le_trans (Nat.le_trans (Nat.le_trans (Nat.le_trans (Nat.le_trans (Nat.le_trans (Nat.le_trans (Nat.le_trans (Nat.le_trans (Nat.le_trans (Nat.le_trans (Nat.le_trans (Nat.le_trans (Nat.le_refl _) K105.1) (Nat.le_of_eq W106.size.symm)) E109.1) E114.1) (Nat.le_of_eq W116.size.symm)) E123.1) (Nat.le_of_eq W127.size.symm)) E133.1) (Nat.le_of_eq W136.size.symm)) E141.1) (Nat.le_of_eq W144.size.symm)) E149.1) (Nat.le_of_eq W152.size.symm)) (Nat.le_of_eq g157.symm)
  have A157 : AL Z h157 b157 k157 .int [] := A157
  have c159 : AL Z h157 b114 k114 (.array .int) [(.ref b123), (.ref b133), (.ref b141), (.ref b149), .null] := (AL.ext E157 A152)
  refine Go.stR (i := 4) (vs' := [(.ref b123), (.ref b133), (.ref b141), (.ref b149), (.ref b157)]) (pc' := 91) C X157 e157 c159 (by decide) (by decide) (by simp) rfl (AL.stoA c159 O114v (Ins.self Ea157)) rfl d3_90 rfl ?_
  intro T160 h160 X160 e160 W160 A160
  have N160 := Fr.snoc X160 N152 n_b114
  refine Go.iinc (Ls' := #[.val (.ref r), .val (.ref q), .val (.int (5 : Int32)), .val (.ref b109), .val (.int ((4 : Int32) + (1 : Int32))), .unset, .unset]) (z := (1 : Int32)) (pc' := 94) C X160 d3_91 rfl rfl rfl rfl ?_
  rw [show ((4 : Int32) + (1 : Int32)) = (5 : Int32) from by decide]
  refine Go.goto (pc' := 70) C X160 d3_94 (by decide) (by decide) ?_
  refine Go.iload (pc' := 72) C X160 d3_70 rfl rfl ?_
  refine Go.iloadN (pc' := 73) C X160 d3_72 rfl rfl ?_
  refine Go.icmpYes (pc' := 97) C X160 d3_73 (flt (x := (5 : Int32)) (y := (5 : Int32)) (by decide)).2.1 (by decide) (by decide) ?_
  refine Go.iloadN (pc' := 98) C X160 d3_97 rfl rfl ?_
  have O163 : Ext Z.heap h160 := (Ext.wr (Ext.trans O158 E157) W160 n_b114)
  refine Go.newP (aty := .int) (cap := 5) (vs := [(.int (0 : Int32)), (.int (0 : Int32)), (.int (0 : Int32)), (.int (0 : Int32)), (.int (0 : Int32))]) (ad := "[I") (pc' := 100) C X160 (by decide) (hw _ (List.mem_of_getElem? (i := 10) rfl)) e160 (by decide) (by decide) (by decide) (by decide) (by decide) rfl d3_98 rfl ?_
  intro T162 h162 b162 k162 X162 e162 g162 E162 A162 Ea162
  have n_b162 : Z.heap.size ≤ b162 := Nat.le_trans O163.1 (Nat.le_of_eq g162.symm)
  have z_b162 : h0.size ≤ b162 := Nat.le_trans (Nat.le_trans (Nat.le_trans (Nat.le_trans (Nat.le_trans (Nat.le_trans (Nat.le_trans (Nat.le_trans (Nat.le_trans (Nat.le_trans (Nat.le_trans (Nat.le_trans (Nat.le_trans (Nat.le_trans (Nat.le_trans (Nat.le_trans (Nat.le_refl _) K105.1) (Nat.le_of_eq W106.size.symm)) E109.1) E114.1) (Nat.le_of_eq W116.size.symm)) E123.1) (Nat.le_of_eq W127.size.symm)) E133.1) (Nat.le_of_eq W136.size.symm)) E141.1) (Nat.le_of_eq W144.size.symm)) E149.1) (Nat.le_of_eq W152.size.symm)) E157.1) (Nat.le_of_eq W160.size.symm)) (Nat.le_of_eq g162.symm)
  have A162 : AL Z h162 b162 k162 .int [(.int (0 : Int32)), (.int (0 : Int32)), (.int (0 : Int32)), (.int (0 : Int32)), (.int (0 : Int32))] := A162
  refine Go.astore (Ls' := #[.val (.ref r), .val (.ref q), .val (.int (5 : Int32)), .val (.ref b109), .val (.ref b162), .unset, .unset]) (pc' := 102) C X162 d3_100 rfl rfl rfl ?_
  refine Go.iconst (z := (0 : Int32)) (pc' := 103) C X162 d3_102 rfl rfl ?_
  refine Go.istore (Ls' := #[.val (.ref r), .val (.ref q), .val (.int (5 : Int32)), .val (.ref b109), .val (.ref b162), .val (.int (0 : Int32)), .unset]) (pc' := 105) C X162 d3_103 rfl rfl ?_
  refine Go.iload (pc' := 107) C X162 d3_105 rfl rfl ?_
  refine Go.aloadN (pc' := 108) C X162 d3_107 rfl rfl rfl ?_
  have ne165 : q ≠ b114 := Nat.ne_of_lt (Nat.lt_of_lt_of_le Gm.lt (Nat.le_trans (Nat.le_trans (Nat.le_trans (Nat.le_trans (Nat.le_refl _) K105.1) (Nat.le_of_eq W106.size.symm)) E109.1) (Nat.le_of_eq g114.symm)))
  have c166 : Fld Z h162 q "com/example/opacheck/opacheck/PrecedenceTraversal$Neighbours" "rangesSize" "I" (.int (0 : Int32)) := (Fld.ext E162 (Fld.other W160 (Fld.ext E157 (Fld.other W152 (Fld.ext E149 (Fld.other W144 (Fld.ext E141 (Fld.other W136 (Fld.ext E133 (Fld.other W127 (Fld.ext E123 (Fld.other W116 (Fld.ext E114 c112) (Or.inl (Ne.symm hne)))) (Or.inl ne165))) (Or.inl ne165))) (Or.inl ne165))) (Or.inl ne165))) (Or.inl ne165)))
  refine Go.getFR (pc' := 111) C X162 (hw _ (List.mem_of_getElem? (i := 42) rfl)) e162 c166 d3_108 rfl ?_
  refine Go.icmpYes (pc' := 183) C X162 d3_111 (flt (x := (0 : Int32)) (y := (0 : Int32)) (by decide)).2.1 (by decide) (by decide) ?_
  refine Go.aloadN (pc' := 184) C X162 d3_183 rfl rfl rfl ?_
  refine Go.iloadN (pc' := 185) C X162 d3_184 rfl rfl ?_
  have O169 : Ext Z.heap h162 := (Ext.trans O163 E162)
  refine Go.newP (aty := .int) (cap := 5) (vs := [(.int (0 : Int32)), (.int (0 : Int32)), (.int (0 : Int32)), (.int (0 : Int32)), (.int (0 : Int32))]) (ad := "[I") (pc' := 187) C X162 (by decide) (hw _ (List.mem_of_getElem? (i := 10) rfl)) e162 (by decide) (by decide) (by decide) (by decide) (by decide) rfl d3_185 rfl ?_
  intro T168 h168 b168 k168 X168 e168 g168 E168 A168 Ea168
  have n_b168 : Z.heap.size ≤ b168 := Nat.le_trans O169.1 (Nat.le_of_eq g168.symm)
  have z_b168 : h0.size ≤ b168 := Nat.le_trans (Nat.le_trans (Nat.le_trans (Nat.le_trans (Nat.le_trans (Nat.le_trans (Nat.le_trans (Nat.le_trans (Nat.le_trans (Nat.le_trans (Nat.le_trans (Nat.le_trans (Nat.le_trans (Nat.le_trans (Nat.le_trans (Nat.le_trans (Nat.le_trans (Nat.le_refl _) K105.1) (Nat.le_of_eq W106.size.symm)) E109.1) E114.1) (Nat.le_of_eq W116.size.symm)) E123.1) (Nat.le_of_eq W127.size.symm)) E133.1) (Nat.le_of_eq W136.size.symm)) E141.1) (Nat.le_of_eq W144.size.symm)) E149.1) (Nat.le_of_eq W152.size.symm)) E157.1) (Nat.le_of_eq W160.size.symm)) E162.1) (Nat.le_of_eq g168.symm)
  have A168 : AL Z h168 b168 k168 .int [(.int (0 : Int32)), (.int (0 : Int32)), (.int (0 : Int32)), (.int (0 : Int32)), (.int (0 : Int32))] := A168
  have c171 : Fld Z h168 r "com/example/opacheck/opacheck/PrecedenceTraversal" "visitedIn" "[I" .null := (Fld.ext E168 (Fld.ext E162 (Fld.other W160 (Fld.ext E157 (Fld.other W152 (Fld.ext E149 (Fld.other W144 (Fld.ext E141 (Fld.other W136 (Fld.ext E133 (Fld.other W127 (Fld.ext E123 (Fld.other W116 (Fld.ext E114 (Fld.ext E109 (Fld.other W106 (Fld.keep FvisitedIn K105 nin0) (Or.inr (slot_ne (Or.inr (hw _ (List.mem_of_getElem? (i := 50) rfl))) (Or.inr (hw _ (List.mem_of_getElem? (i := 41) rfl))) (by decide) (t := (.array .int)) (t' := (.array .int)) (by decide) (by decide)))))) (Or.inr (slot_ne (Or.inr (hw _ (List.mem_of_getElem? (i := 50) rfl))) (Or.inr (hw _ (List.mem_of_getElem? (i := 47) rfl))) (by decide) (t := (.array .int)) (t' := (.array (.array .int))) (by decide) (by decide))))) (Or.inl (Ne.symm ne125)))) (Or.inl (Ne.symm ne125)))) (Or.inl (Ne.symm ne125)))) (Or.inl (Ne.symm ne125)))) (Or.inl (Ne.symm ne125)))))
  have c172 : Exa Z h168 r "com/example/opacheck/opacheck/PrecedenceTraversal" := (Exa.ext E168 (Exa.ext E162 (Exa.wr W160 (Exa.ext E157 (Exa.wr W152 (Exa.ext E149 (Exa.wr W144 (Exa.ext E141 (Exa.wr W136 (Exa.ext E133 (Exa.wr W127 (Exa.ext E123 (Exa.wr W116 c118)))))))))))))
  refine Go.putF (pc' := 190) (host := "") (ty := (.array .int)) C X168 (Or.inl (hw _ (List.mem_of_getElem? (i := 49) rfl))) Via.refl e168 c171 c172 (Or.inr ⟨(hw _ (List.mem_of_getElem? (i := 50) rfl)), rfl, rfl⟩) (hw _ (List.mem_of_getElem? (i := 18) rfl)) (by decide) rfl rfl d3_187 rfl ?_
  intro T170 h170 X170 e170 W170 F170
  have N170 := Fr.snoc X170 N160 hn
  refine Go.aloadN (pc' := 191) C X170 d3_190 rfl rfl rfl ?_
  refine Go.iloadN (pc' := 192) C X170 d3_191 rfl rfl ?_
  have O174 : Ext Z.heap h170 := (Ext.wr (Ext.trans O169 E168) W170 hn)
  refine Go.newP (aty := .int) (cap := 5) (vs := [(.int (0 : Int32)), (.int (0 : Int32)), (.int (0 : Int32)), (.int (0 : Int32)), (.int (0 : Int32))]) (ad := "[I") (pc' := 194) C X170 (by decide) (hw _ (List.mem_of_getElem? (i := 10) rfl)) e170 (by decide) (by decide) (by decide) (by decide) (by decide) rfl d3_192 rfl ?_
  intro T173 h173 b173 k173 X173 e173 g173 E173 A173 Ea173
  have n_b173 : Z.heap.size ≤ b173 := Nat.le_trans O174.1 (Nat.le_of_eq g173.symm)
  have z_b173 : h0.size ≤ b173 := Nat.le_trans (Nat.le_trans (Nat.le_trans (Nat.le_trans (Nat.le_trans (Nat.le_trans (Nat.le_trans (Nat.le_trans (Nat.le_trans (Nat.le_trans (Nat.le_trans (Nat.le_trans (Nat.le_trans (Nat.le_trans (Nat.le_trans (Nat.le_trans (Nat.le_trans (Nat.le_trans (Nat.le_trans (Nat.le_refl _) K105.1) (Nat.le_of_eq W106.size.symm)) E109.1) E114.1) (Nat.le_of_eq W116.size.symm)) E123.1) (Nat.le_of_eq W127.size.symm)) E133.1) (Nat.le_of_eq W136.size.symm)) E141.1) (Nat.le_of_eq W144.size.symm)) E149.1) (Nat.le_of_eq W152.size.symm)) E157.1) (Nat.le_of_eq W160.size.symm)) E162.1) E168.1) (Nat.le_of_eq W170.size.symm)) (Nat.le_of_eq g173.symm)
  have A173 : AL Z h173 b173 k173 .int [(.int (0 : Int32)), (.int (0 : Int32)), (.int (0 : Int32)), (.int (0 : Int32)), (.int (0 : Int32))] := A173
  have c176 : Fld Z h173 r "com/example/opacheck/opacheck/PrecedenceTraversal" "positions" "[I" .null := (Fld.ext E173 (Fld.other W170 (Fld.ext E168 (Fld.ext E162 (Fld.other W160 (Fld.ext E157 (Fld.other W152 (Fld.ext E149 (Fld.other W144 (Fld.ext E141 (Fld.other W136 (Fld.ext E133 (Fld.other W127 (Fld.ext E123 (Fld.other W116 (Fld.ext E114 (Fld.ext E109 (Fld.other W106 (Fld.keep Fpositions K105 nin0) (Or.inr (slot_ne (Or.inr (hw _ (List.mem_of_getElem? (i := 52) rfl))) (Or.inr (hw _ (List.mem_of_getElem? (i := 41) rfl))) (by decide) (t := (.array .int)) (t' := (.array .int)) (by decide) (by decide)))))) (Or.inr (slot_ne (Or.inr (hw _ (List.mem_of_getElem? (i := 52) rfl))) (Or.inr (hw _ (List.mem_of_getElem? (i := 47) rfl))) (by decide) (t := (.array .int)) (t' := (.array (.array .int))) (by decide) (by decide))))) (Or.inl (Ne.symm ne125)))) (Or.inl (Ne.symm ne125)))) (Or.inl (Ne.symm ne125)))) (Or.inl (Ne.symm ne125)))) (Or.inl (Ne.symm ne125))))) (Or.inr (slot_ne (Or.inr (hw _ (List.mem_of_getElem? (i := 52) rfl))) (Or.inr (hw _ (List.mem_of_getElem? (i := 50) rfl))) (by decide) (t := (.array .int)) (t' := (.array .int)) (by decide) (by decide)))))
  have c177 : Exa Z h173 r "com/example/opacheck/opacheck/PrecedenceTraversal" := (Exa.ext E173 (Exa.wr W170 c172))
  refine Go.putF (pc' := 197) (host := "") (ty := (.array .int)) C X173 (Or.inl (hw _ (List.mem_of_getElem? (i := 51) rfl))) Via.refl e173 c176 c177 (Or.inr ⟨(hw _ (List.mem_of_getElem? (i := 52) rfl)), rfl, rfl⟩) (hw _ (List.mem_of_getElem? (i := 18) rfl)) (by decide) rfl rfl d3_194 rfl ?_
  intro T175 h175 X175 e175 W175 F175
  have N175 := Fr.snoc X175 N170 hn
  refine Go.aloadN (pc' := 198) C X175 d3_197 rfl rfl rfl ?_
  refine Go.aloadN (pc' := 199) C X175 d3_198 rfl rfl rfl ?_
  have c179 : Fld Z h175 r "com/example/opacheck/opacheck/PrecedenceTraversal" "members" "[I" (.ref b_105) := (Fld.other W175 (Fld.ext E173 (Fld.other W170 (Fld.ext E168 (Fld.ext E162 (Fld.other W160 (Fld.ext E157 (Fld.other W152 (Fld.ext E149 (Fld.other W144 (Fld.ext E141 (Fld.other W136 (Fld.ext E133 (Fld.other W127 (Fld.ext E123 (Fld.other W116 (Fld.ext E114 (Fld.ext E109 F106)) (Or.inr (slot_ne (Or.inr (hw _ (List.mem_of_getElem? (i := 41) rfl))) (Or.inr (hw _ (List.mem_of_getElem? (i := 47) rfl))) (by decide) (t := (.array .int)) (t' := (.array (.array .int))) (by decide) (by decide))))) (Or.inl (Ne.symm ne125)))) (Or.inl (Ne.symm ne125)))) (Or.inl (Ne.symm ne125)))) (Or.inl (Ne.symm ne125)))) (Or.inl (Ne.symm ne125))))) (Or.inr (slot_ne (Or.inr (hw _ (List.mem_of_getElem? (i := 41) rfl))) (Or.inr (hw _ (List.mem_of_getElem? (i := 50) rfl))) (by decide) (t := (.array .int)) (t' := (.array .int)) (by decide) (by decide))))) (Or.inr (slot_ne (Or.inr (hw _ (List.mem_of_getElem? (i := 41) rfl))) (Or.inr (hw _ (List.mem_of_getElem? (i := 52) rfl))) (by decide) (t := (.array .int)) (t' := (.array .int)) (by decide) (by decide))))
  refine Go.getF (pc' := 202) (host := "") C X175 (Or.inl (hw _ (List.mem_of_getElem? (i := 40) rfl))) Via.refl e175 c179 d3_199 rfl ?_
  intro T178 X178 e178
  have ne180 : b_105 ≠ r := (Nat.ne_of_gt (Nat.lt_of_lt_of_le E0.lt (Nat.le_trans (Nat.le_refl _) B105_0)))
  have ne181 : b_105 ≠ b114 := Nat.ne_of_lt (Nat.lt_of_lt_of_le P105_0.lt (Nat.le_trans (Nat.le_trans (Nat.le_trans (Nat.le_refl _) (Nat.le_of_eq W106.size.symm)) E109.1) (Nat.le_of_eq g114.symm)))
  have c182 : AL Z h175 b_105 kb_105 .int [] := (AL.other W175 (AL.ext E173 (AL.other W170 (AL.ext E168 (AL.ext E162 (AL.other W160 (AL.ext E157 (AL.other W152 (AL.ext E149 (AL.other W144 (AL.ext E141 (AL.other W136 (AL.ext E133 (AL.other W127 (AL.ext E123 (AL.other W116 (AL.ext E114 (AL.ext E109 (AL.other W106 P105_0 ne180))) ne180)) ne181)) ne181)) ne181)) ne181)) ne181))) ne180)) ne180)
  refine Go.alen (z := (0 : Int32)) (pc' := 203) C X178 e178 c182 rfl d3_202 rfl ?_
  refine Go.iconst (z := (1 : Int32)) (pc' := 204) C X178 d3_203 rfl rfl ?_
  refine Go.iadd (pc' := 205) C X178 d3_204 rfl ?_
  rw [show ((0 : Int32) + (1 : Int32)) = (1 : Int32) from by decide]
  have O184 : Ext Z.heap h175 := (Ext.wr (Ext.trans O174 E173) W175 hn)
  refine Go.newP (aty := .int) (cap := 1) (vs := [(.int (0 : Int32))]) (ad := "[I") (pc' := 207) C X178 (by decide) (hw _ (List.mem_of_getElem? (i := 10) rfl)) e178 (by decide) (by decide) (by decide) (by decide) (by decide) rfl d3_205 rfl ?_
  intro T183 h183 b183 k183 X183 e183 g183 E183 A183 Ea183
  have n_b183 : Z.heap.size ≤ b183 := Nat.le_trans O184.1 (Nat.le_of_eq g183.symm)
  have z_b183 : h0.size ≤ b183 := Nat.le_trans (Nat.le_trans (Nat.le_trans (Nat.le_trans (Nat.le_trans (Nat.le_trans (Nat.le_trans (Nat.le_trans (Nat.le_trans (Nat.le_trans (Nat.le_trans (Nat.le_trans (Nat.le_trans (Nat.le_trans (Nat.le_trans (Nat.le_trans (Nat.le_trans (Nat.le_trans (Nat.le_trans (Nat.le_trans (Nat.le_trans (Nat.le_refl _) K105.1) (Nat.le_of_eq W106.size.symm)) E109.1) E114.1) (Nat.le_of_eq W116.size.symm)) E123.1) (Nat.le_of_eq W127.size.symm)) E133.1) (Nat.le_of_eq W136.size.symm)) E141.1) (Nat.le_of_eq W144.size.symm)) E149.1) (Nat.le_of_eq W152.size.symm)) E157.1) (Nat.le_of_eq W160.size.symm)) E162.1) E168.1) (Nat.le_of_eq W170.size.symm)) E173.1) (Nat.le_of_eq W175.size.symm)) (Nat.le_of_eq g183.symm)
  have A183 : AL Z h183 b183 k183 .int [(.int (0 : Int32))] := A183
  have c186 : Fld Z h183 r "com/example/opacheck/opacheck/PrecedenceTraversal" "links" "[I" .null := (Fld.ext E183 (Fld.other W175 (Fld.ext E173 (Fld.other W170 (Fld.ext E168 (Fld.ext E162 (Fld.other W160 (Fld.ext E157 (Fld.other W152 (Fld.ext E149 (Fld.other W144 (Fld.ext E141 (Fld.other W136 (Fld.ext E133 (Fld.other W127 (Fld.ext E123 (Fld.other W116 (Fld.ext E114 (Fld.ext E109 (Fld.other W106 (Fld.keep Flinks K105 nin0) (Or.inr (slot_ne (Or.inr (hw _ (List.mem_of_getElem? (i := 54) rfl))) (Or.inr (hw _ (List.mem_of_getElem? (i := 41) rfl))) (by decide) (t := (.array .int)) (t' := (.array .int)) (by decide) (by decide)))))) (Or.inr (slot_ne (Or.inr (hw _ (List.mem_of_getElem? (i := 54) rfl))) (Or.inr (hw _ (List.mem_of_getElem? (i := 47) rfl))) (by decide) (t := (.array .int)) (t' := (.array (.array .int))) (by decide) (by decide))))) (Or.inl (Ne.symm ne125)))) (Or.inl (Ne.symm ne125)))) (Or.inl (Ne.symm ne125)))) (Or.inl (Ne.symm ne125)))) (Or.inl (Ne.symm ne125))))) (Or.inr (slot_ne (Or.inr (hw _ (List.mem_of_getElem? (i := 54) rfl))) (Or.inr (hw _ (List.mem_of_getElem? (i := 50) rfl))) (by decide) (t := (.array .int)) (t' := (.array .int)) (by decide) (by decide))))) (Or.inr (slot_ne (Or.inr (hw _ (List.mem_of_getElem? (i := 54) rfl))) (Or.inr (hw _ (List.mem_of_getElem? (i := 52) rfl))) (by decide) (t := (.array .int)) (t' := (.array .int)) (by decide) (by decide)))))
  have c187 : Exa Z h183 r "com/example/opacheck/opacheck/PrecedenceTraversal" := (Exa.ext E183 (Exa.wr W175 c177))
  refine Go.putF (pc' := 210) (host := "") (ty := (.array .int)) C X183 (Or.inl (hw _ (List.mem_of_getElem? (i := 53) rfl))) Via.refl e183 c186 c187 (Or.inr ⟨(hw _ (List.mem_of_getElem? (i := 54) rfl)), rfl, rfl⟩) (hw _ (List.mem_of_getElem? (i := 18) rfl)) (by decide) rfl rfl d3_207 rfl ?_
  intro T185 h185 X185 e185 W185 F185
  have N185 := Fr.snoc X185 N175 hn
  refine Go.aloadN (pc' := 211) C X185 d3_210 rfl rfl rfl ?_
  refine Go.aloadN (pc' := 212) C X185 d3_211 rfl rfl rfl ?_
  have c189 : Fld Z h185 r "com/example/opacheck/opacheck/PrecedenceTraversal" "members" "[I" (.ref b_105) := (Fld.other W185 (Fld.ext E183 c179) (Or.inr (slot_ne (Or.inr (hw _ (List.mem_of_getElem? (i := 41) rfl))) (Or.inr (hw _ (List.mem_of_getElem? (i := 54) rfl))) (by decide) (t := (.array .int)) (t' := (.array .int)) (by decide) (by decide))))
  refine Go.getF (pc' := 215) (host := "") C X185 (Or.inl (hw _ (List.mem_of_getElem? (i := 40) rfl))) Via.refl e185 c189 d3_212 rfl ?_
  intro T188 X188 e188
  have c190 : AL Z h185 b_105 kb_105 .int [] := (AL.other W185 (AL.ext E183 c182) ne180)
  refine Go.alen (z := (0 : Int32)) (pc' := 216) C X188 e188 c190 rfl d3_215 rfl ?_
  refine Go.iconst (z := (1 : Int32)) (pc' := 217) C X188 d3_216 rfl rfl ?_
  refine Go.iadd (pc' := 218) C X188 d3_217 rfl ?_
  rw [show ((0 : Int32) + (1 : Int32)) = (1 : Int32) from by decide]
  have O192 : Ext Z.heap h185 := (Ext.wr (Ext.trans O184 E183) W185 hn)
  refine Go.newP (aty := .int) (cap := 1) (vs := [(.int (0 : Int32))]) (ad := "[I") (pc' := 220) C X188 (by decide) (hw _ (List.mem_of_getElem? (i := 10) rfl)) e188 (by decide) (by decide) (by decide) (by decide) (by decide) rfl d3_218 rfl ?_
  intro T191 h191 b191 k191 X191 e191 g191 E191 A191 Ea191
  have n_b191 : Z.heap.size ≤ b191 := Nat.le_trans O192.1 (Nat.le_of_eq g191.symm)
  have z_b191 : h0.size ≤ b191 := Nat.le_trans (Nat.le_trans (Nat.le_trans (Nat.le_trans (Nat.le_trans (Nat.le_trans (Nat.le_trans (Nat.le_trans (Nat.le_trans (Nat.le_trans (Nat.le_trans (Nat.le_trans (Nat.le_trans (Nat.le_trans (Nat.le_trans (Nat.le_trans (Nat.le_trans (Nat.le_trans (Nat.le_trans (Nat.le_trans (Nat.le_trans (Nat.le_trans (Nat.le_trans (Nat.le_refl _) K105.1) (Nat.le_of_eq W106.size.symm)) E109.1) E114.1) (Nat.le_of_eq W116.size.symm)) E123.1) (Nat.le_of_eq W127.size.symm)) E133.1) (Nat.le_of_eq W136.size.symm)) E141.1) (Nat.le_of_eq W144.size.symm)) E149.1) (Nat.le_of_eq W152.size.symm)) E157.1) (Nat.le_of_eq W160.size.symm)) E162.1) E168.1) (Nat.le_of_eq W170.size.symm)) E173.1) (Nat.le_of_eq W175.size.symm)) E183.1) (Nat.le_of_eq W185.size.symm)) (Nat.le_of_eq g191.symm)
  have A191 : AL Z h191 b191 k191 .int [(.int (0 : Int32))] := A191
  have c194 : Fld Z h191 r "com/example/opacheck/opacheck/PrecedenceTraversal" "linkedIn" "[I" .null := (Fld.ext E191 (Fld.other W185 (Fld.ext E183 (Fld.other W175 (Fld.ext E173 (Fld.other W170 (Fld.ext E168 (Fld.ext E162 (Fld.other W160 (Fld.ext E157 (Fld.other W152 (Fld.ext E149 (Fld.other W144 (Fld.ext E141 (Fld.other W136 (Fld.ext E133 (Fld.other W127 (Fld.ext E123 (Fld.other W116 (Fld.ext E114 (Fld.ext E109 (Fld.other W106 (Fld.keep FlinkedIn K105 nin0) (Or.inr (slot_ne (Or.inr (hw _ (List.mem_of_getElem? (i := 56) rfl))) (Or.inr (hw _ (List.mem_of_getElem? (i := 41) rfl))) (by decide) (t := (.array .int)) (t' := (.array .int)) (by decide) (by decide)))))) (Or.inr (slot_ne (Or.inr (hw _ (List.mem_of_getElem? (i := 56) rfl))) (Or.inr (hw _ (List.mem_of_getElem? (i := 47) rfl))) (by decide) (t := (.array .int)) (t' := (.array (.array .int))) (by decide) (by decide))))) (Or.inl (Ne.symm ne125)))) (Or.inl (Ne.symm ne125)))) (Or.inl (Ne.symm ne125)))) (Or.inl (Ne.symm ne125)))) (Or.inl (Ne.symm ne125))))) (Or.inr (slot_ne (Or.inr (hw _ (List.mem_of_getElem? (i := 56) rfl))) (Or.inr (hw _ (List.mem_of_getElem? (i := 50) rfl))) (by decide) (t := (.array .int)) (t' := (.array .int)) (by decide) (by decide))))) (Or.inr (slot_ne (Or.inr (hw _ (List.mem_of_getElem? (i := 56) rfl))) (Or.inr (hw _ (List.mem_of_getElem? (i := 52) rfl))) (by decide) (t := (.array .int)) (t' := (.array .int)) (by decide) (by decide))))) (Or.inr (slot_ne (Or.inr (hw _ (List.mem_of_getElem? (i := 56) rfl))) (Or.inr (hw _ (List.mem_of_getElem? (i := 54) rfl))) (by decide) (t := (.array .int)) (t' := (.array .int)) (by decide) (by decide)))))
  have c195 : Exa Z h191 r "com/example/opacheck/opacheck/PrecedenceTraversal" := (Exa.ext E191 (Exa.wr W185 c187))
  refine Go.putF (pc' := 223) (host := "") (ty := (.array .int)) C X191 (Or.inl (hw _ (List.mem_of_getElem? (i := 55) rfl))) Via.refl e191 c194 c195 (Or.inr ⟨(hw _ (List.mem_of_getElem? (i := 56) rfl)), rfl, rfl⟩) (hw _ (List.mem_of_getElem? (i := 18) rfl)) (by decide) rfl rfl d3_220 rfl ?_
  intro T193 h193 X193 e193 W193 F193
  have N193 := Fr.snoc X193 N185 hn
  refine Go.aloadN (pc' := 224) C X193 d3_223 rfl rfl rfl ?_
  refine Go.iloadN (pc' := 225) C X193 d3_224 rfl rfl ?_
  have O197 : Ext Z.heap h193 := (Ext.wr (Ext.trans O192 E191) W193 hn)
  refine Go.newP (aty := .int) (cap := 5) (vs := [(.int (0 : Int32)), (.int (0 : Int32)), (.int (0 : Int32)), (.int (0 : Int32)), (.int (0 : Int32))]) (ad := "[I") (pc' := 227) C X193 (by decide) (hw _ (List.mem_of_getElem? (i := 10) rfl)) e193 (by decide) (by decide) (by decide) (by decide) (by decide) rfl d3_225 rfl ?_
  intro T196 h196 b196 k196 X196 e196 g196 E196 A196 Ea196
  have n_b196 : Z.heap.size ≤ b196 := Nat.le_trans O197.1 (Nat.le_of_eq g196.symm)
  have z_b196 : h0.size ≤ b196 := Nat.le_trans (Nat.le_trans (Nat.le_trans (Nat.le_trans (Nat.le_trans (Nat.le_trans (Nat.le_trans (Nat.le_trans (Nat.le_trans (Nat.le_trans (Nat.le_trans (Nat.le_trans (Nat.le_trans (Nat.le_trans (Nat.le_trans (Nat.le_trans (Nat.le_trans (Nat.le_trans (Nat.le_trans (Nat.le_trans (Nat.le_trans (Nat.le_trans (Nat.le_trans (Nat.le_trans (Nat.le_trans (Nat.le_refl _) K105.1) (Nat.le_of_eq W106.size.symm)) E109.1) E114.1) (Nat.le_of_eq W116.size.symm)) E123.1) (Nat.le_of_eq W127.size.symm)) E133.1) (Nat.le_of_eq W136.size.symm)) E141.1) (Nat.le_of_eq W144.size.symm)) E149.1) (Nat.le_of_eq W152.size.symm)) E157.1) (Nat.le_of_eq W160.size.symm)) E162.1) E168.1) (Nat.le_of_eq W170.size.symm)) E173.1) (Nat.le_of_eq W175.size.symm)) E183.1) (Nat.le_of_eq W185.size.symm)) E191.1) (Nat.le_of_eq W193.size.symm)) (Nat.le_of_eq g196.symm)
  have A196 : AL Z h196 b196 k196 .int [(.int (0 : Int32)), (.int (0 : Int32)), (.int (0 : Int32)), (.int (0 : Int32)), (.int (0 : Int32))] := A196
  have c199 : Fld Z h196 r "com/example/opacheck/opacheck/PrecedenceTraversal" "path" "[I" .null := (Fld.ext E196 (Fld.other W193 (Fld.ext E191 (Fld.other W185 (Fld.ext E183 (Fld.other W175 (Fld.ext E173 (Fld.other W170 (Fld.ext E168 (Fld.ext E162 (Fld.other W160 (Fld.ext E157 (Fld.other W152 (Fld.ext E149 (Fld.other W144 (Fld.ext E141 (Fld.other W136 (Fld.ext E133 (Fld.other W127 (Fld.ext E123 (Fld.other W116 (Fld.ext E114 (Fld.ext E109 (Fld.other W106 (Fld.keep Fpath K105 nin0) (Or.inr (slot_ne (Or.inr (hw _ (List.mem_of_getElem? (i := 58) rfl))) (Or.inr (hw _ (List.mem_of_getElem? (i := 41) rfl))) (by decide) (t := (.array .int)) (t' := (.array .int)) (by decide) (by decide)))))) (Or.inr (slot_ne (Or.inr (hw _ (List.mem_of_getElem? (i := 58) rfl))) (Or.inr (hw _ (List.mem_of_getElem? (i := 47) rfl))) (by decide) (t := (.array .int)) (t' := (.array (.array .int))) (by decide) (by decide))))) (Or.inl (Ne.symm ne125)))) (Or.inl (Ne.symm ne125)))) (Or.inl (Ne.symm ne125)))) (Or.inl (Ne.symm ne125)))) (Or.inl (Ne.symm ne125))))) (Or.inr (slot_ne (Or.inr (hw _ (List.mem_of_getElem? (i := 58) rfl))) (Or.inr (hw _ (List.mem_of_getElem? (i := 50) rfl))) (by decide) (t := (.array .int)) (t' := (.array .int)) (by decide) (by decide))))) (Or.inr (slot_ne (Or.inr (hw _ (List.mem_of_getElem? (i := 58) rfl))) (Or.inr (hw _ (List.mem_of_getElem? (i := 52) rfl))) (by decide) (t := (.array .int)) (t' := (.array .int)) (by decide) (by decide))))) (Or.inr (slot_ne (Or.inr (hw _ (List.mem_of_getElem? (i := 58) rfl))) (Or.inr (hw _ (List.mem_of_getElem? (i := 54) rfl))) (by decide) (t := (.array .int)) (t' := (.array .int)) (by decide) (by decide))))) (Or.inr (slot_ne (Or.inr (hw _ (List.mem_of_getElem? (i := 58) rfl))) (Or.inr (hw _ (List.mem_of_getElem? (i := 56) rfl))) (by decide) (t := (.array .int)) (t' := (.array .int)) (by decide) (by decide)))))
  have c200 : Exa Z h196 r "com/example/opacheck/opacheck/PrecedenceTraversal" := (Exa.ext E196 (Exa.wr W193 c195))
  refine Go.putF (pc' := 230) (host := "") (ty := (.array .int)) C X196 (Or.inl (hw _ (List.mem_of_getElem? (i := 57) rfl))) Via.refl e196 c199 c200 (Or.inr ⟨(hw _ (List.mem_of_getElem? (i := 58) rfl)), rfl, rfl⟩) (hw _ (List.mem_of_getElem? (i := 18) rfl)) (by decide) rfl rfl d3_227 rfl ?_
  intro T198 h198 X198 e198 W198 F198
  have N198 := Fr.snoc X198 N193 hn
  have K201 : Keep h0 h198 [r] := (((((((((((((((((((((((((((Keep.refl h0 [r]).trans K105 all0).wr W106 (Or.inl (by simp))).ext E109).ext E114).wr W116 (Or.inl (by simp))).ext E123).wr W127 (Or.inr z_b114)).ext E133).wr W136 (Or.inr z_b114)).ext E141).wr W144 (Or.inr z_b114)).ext E149).wr W152 (Or.inr z_b114)).ext E157).wr W160 (Or.inr z_b114)).ext E162).ext E168).wr W170 (Or.inl (by simp))).ext E173).wr W175 (Or.inl (by simp))).ext E183).wr W185 (Or.inl (by simp))).ext E191).wr W193 (Or.inl (by simp))).ext E196).wr W198 (Or.inl (by simp)))
  have c202 : Fld Z h198 r "com/example/opacheck/opacheck/PrecedenceTraversal" "visitedIn" "[I" (.ref b168) := (Fld.other W198 (Fld.ext E196 (Fld.other W193 (Fld.ext E191 (Fld.other W185 (Fld.ext E183 (Fld.other W175 (Fld.ext E173 F170) (Or.inr (slot_ne (Or.inr (hw _ (List.mem_of_getElem? (i := 50) rfl))) (Or.inr (hw _ (List.mem_of_getElem? (i := 52) rfl))) (by decide) (t := (.array .int)) (t' := (.array .int)) (by decide) (by decide))))) (Or.inr (slot_ne (Or.inr (hw _ (List.mem_of_getElem? (i := 50) rfl))) (Or.inr (hw _ (List.mem_of_getElem? (i := 54) rfl))) (by decide) (t := (.array .int)) (t' := (.array .int)) (by decide) (by decide))))) (Or.inr (slot_ne (Or.inr (hw _ (List.mem_of_getElem? (i := 50) rfl))) (Or.inr (hw _ (List.mem_of_getElem? (i := 56) rfl))) (by decide) (t := (.array .int)) (t' := (.array .int)) (by decide) (by decide))))) (Or.inr (slot_ne (Or.inr (hw _ (List.mem_of_getElem? (i := 50) rfl))) (Or.inr (hw _ (List.mem_of_getElem? (i := 58) rfl))) (by decide) (t := (.array .int)) (t' := (.array .int)) (by decide) (by decide))))
  have ne203 : b168 ≠ r := (Nat.ne_of_gt (Nat.lt_of_lt_of_le E0.lt (Nat.le_trans (Nat.le_trans (Nat.le_trans (Nat.le_trans (Nat.le_trans (Nat.le_trans (Nat.le_trans (Nat.le_trans (Nat.le_trans (Nat.le_trans (Nat.le_trans (Nat.le_trans (Nat.le_trans (Nat.le_trans (Nat.le_trans (Nat.le_trans (Nat.le_trans (Nat.le_refl _) K105.1) (Nat.le_of_eq W106.size.symm)) E109.1) E114.1) (Nat.le_of_eq W116.size.symm)) E123.1) (Nat.le_of_eq W127.size.symm)) E133.1) (Nat.le_of_eq W136.size.symm)) E141.1) (Nat.le_of_eq W144.size.symm)) E149.1) (Nat.le_of_eq W152.size.symm)) E157.1) (Nat.le_of_eq W160.size.symm)) E162.1) (Nat.le_of_eq g168.symm))))
  have c204 : AL Z h198 b168 k168 .int [(.int (0 : Int32)), (.int (0 : Int32)), (.int (0 : Int32)), (.int (0 : Int32)), (.int (0 : Int32))] := (AL.other W198 (AL.ext E196 (AL.other W193 (AL.ext E191 (AL.other W185 (AL.ext E183 (AL.other W175 (AL.ext E173 (AL.other W170 A168 ne203)) ne203)) ne203)) ne203)) ne203)
  have c205 : Fld Z h198 r "com/example/opacheck/opacheck/PrecedenceTraversal" "positions" "[I" (.ref b173) := (Fld.other W198 (Fld.ext E196 (Fld.other W193 (Fld.ext E191 (Fld.other W185 (Fld.ext E183 F175) (Or.inr (slot_ne (Or.inr (hw _ (List.mem_of_getElem? (i := 52) rfl))) (Or.inr (hw _ (List.mem_of_getElem? (i := 54) rfl))) (by decide) (t := (.array .int)) (t' := (.array .int)) (by decide) (by decide))))) (Or.inr (slot_ne (Or.inr (hw _ (List.mem_of_getElem? (i := 52) rfl))) (Or.inr (hw _ (List.mem_of_getElem? (i := 56) rfl))) (by decide) (t := (.array .int)) (t' := (.array .int)) (by decide) (by decide))))) (Or.inr (slot_ne (Or.inr (hw _ (List.mem_of_getElem? (i := 52) rfl))) (Or.inr (hw _ (List.mem_of_getElem? (i := 58) rfl))) (by decide) (t := (.array .int)) (t' := (.array .int)) (by decide) (by decide))))
  have ne206 : b173 ≠ r := (Nat.ne_of_gt (Nat.lt_of_lt_of_le E0.lt (Nat.le_trans (Nat.le_trans (Nat.le_trans (Nat.le_trans (Nat.le_trans (Nat.le_trans (Nat.le_trans (Nat.le_trans (Nat.le_trans (Nat.le_trans (Nat.le_trans (Nat.le_trans (Nat.le_trans (Nat.le_trans (Nat.le_trans (Nat.le_trans (Nat.le_trans (Nat.le_trans (Nat.le_trans (Nat.le_refl _) K105.1) (Nat.le_of_eq W106.size.symm)) E109.1) E114.1) (Nat.le_of_eq W116.size.symm)) E123.1) (Nat.le_of_eq W127.size.symm)) E133.1) (Nat.le_of_eq W136.size.symm)) E141.1) (Nat.le_of_eq W144.size.symm)) E149.1) (Nat.le_of_eq W152.size.symm)) E157.1) (Nat.le_of_eq W160.size.symm)) E162.1) E168.1) (Nat.le_of_eq W170.size.symm)) (Nat.le_of_eq g173.symm))))
  have c207 : AL Z h198 b173 k173 .int [(.int (0 : Int32)), (.int (0 : Int32)), (.int (0 : Int32)), (.int (0 : Int32)), (.int (0 : Int32))] := (AL.other W198 (AL.ext E196 (AL.other W193 (AL.ext E191 (AL.other W185 (AL.ext E183 (AL.other W175 A173 ne206)) ne206)) ne206)) ne206)
  have c208 : Fld Z h198 r "com/example/opacheck/opacheck/PrecedenceTraversal" "number" "I" (.int (0 : Int32)) := (Fld.other W198 (Fld.ext E196 (Fld.other W193 (Fld.ext E191 (Fld.other W185 (Fld.ext E183 (Fld.other W175 (Fld.ext E173 (Fld.other W170 (Fld.ext E168 (Fld.ext E162 (Fld.other W160 (Fld.ext E157 (Fld.other W152 (Fld.ext E149 (Fld.other W144 (Fld.ext E141 (Fld.other W136 (Fld.ext E133 (Fld.other W127 (Fld.ext E123 (Fld.other W116 (Fld.ext E114 (Fld.ext E109 (Fld.other W106 (Fld.keep Fnum K105 nin0) (Or.inr (slot_ne (Or.inl (hw _ (List.mem_of_getElem? (i := 65) rfl))) (Or.inr (hw _ (List.mem_of_getElem? (i := 41) rfl))) (by decide) (t := .int) (t' := (.array .int)) (by decide) (by decide)))))) (Or.inr (slot_ne (Or.inl (hw _ (List.mem_of_getElem? (i := 65) rfl))) (Or.inr (hw _ (List.mem_of_getElem? (i := 47) rfl))) (by decide) (t := .int) (t' := (.array (.array .int))) (by decide) (by decide))))) (Or.inl (Ne.symm ne125)))) (Or.inl (Ne.symm ne125)))) (Or.inl (Ne.symm ne125)))) (Or.inl (Ne.symm ne125)))) (Or.inl (Ne.symm ne125))))) (Or.inr (slot_ne (Or.inl (hw _ (List.mem_of_getElem? (i := 65) rfl))) (Or.inr (hw _ (List.mem_of_getElem? (i := 50) rfl))) (by decide) (t := .int) (t' := (.array .int)) (by decide) (by decide))))) (Or.inr (slot_ne (Or.inl (hw _ (List.mem_of_getElem? (i := 65) rfl))) (Or.inr (hw _ (List.mem_of_getElem? (i := 52) rfl))) (by decide) (t := .int) (t' := (.array .int)) (by decide) (by decide))))) (Or.inr (slot_ne (Or.inl (hw _ (List.mem_of_getElem? (i := 65) rfl))) (Or.inr (hw _ (List.mem_of_getElem? (i := 54) rfl))) (by decide) (t := .int) (t' := (.array .int)) (by decide) (by decide))))) (Or.inr (slot_ne (Or.inl (hw _ (List.mem_of_getElem? (i := 65) rfl))) (Or.inr (hw _ (List.mem_of_getElem? (i := 56) rfl))) (by decide) (t := .int) (t' := (.array .int)) (by decide) (by decide))))) (Or.inr (slot_ne (Or.inl (hw _ (List.mem_of_getElem? (i := 65) rfl))) (Or.inr (hw _ (List.mem_of_getElem? (i := 58) rfl))) (by decide) (t := .int) (t' := (.array .int)) (by decide) (by decide))))
  have c209 : Fld Z h198 r "com/example/opacheck/opacheck/PrecedenceTraversal" "scope" "Ljava/util/function/IntPredicate;" .null := (Fld.other W198 (Fld.ext E196 (Fld.other W193 (Fld.ext E191 (Fld.other W185 (Fld.ext E183 (Fld.other W175 (Fld.ext E173 (Fld.other W170 (Fld.ext E168 (Fld.ext E162 (Fld.other W160 (Fld.ext E157 (Fld.other W152 (Fld.ext E149 (Fld.other W144 (Fld.ext E141 (Fld.other W136 (Fld.ext E133 (Fld.other W127 (Fld.ext E123 (Fld.other W116 (Fld.ext E114 (Fld.ext E109 (Fld.other W106 (Fld.keep Fsc K105 nin0) (Or.inr (slot_ne (Or.inl (hw _ (List.mem_of_getElem? (i := 67) rfl))) (Or.inr (hw _ (List.mem_of_getElem? (i := 41) rfl))) (by decide) (t := (.object "java/util/function/IntPredicate")) (t' := (.array .int)) (by decide) (by decide)))))) (Or.inr (slot_ne (Or.inl (hw _ (List.mem_of_getElem? (i := 67) rfl))) (Or.inr (hw _ (List.mem_of_getElem? (i := 47) rfl))) (by decide) (t := (.object "java/util/function/IntPredicate")) (t' := (.array (.array .int))) (by decide) (by decide))))) (Or.inl (Ne.symm ne125)))) (Or.inl (Ne.symm ne125)))) (Or.inl (Ne.symm ne125)))) (Or.inl (Ne.symm ne125)))) (Or.inl (Ne.symm ne125))))) (Or.inr (slot_ne (Or.inl (hw _ (List.mem_of_getElem? (i := 67) rfl))) (Or.inr (hw _ (List.mem_of_getElem? (i := 50) rfl))) (by decide) (t := (.object "java/util/function/IntPredicate")) (t' := (.array .int)) (by decide) (by decide))))) (Or.inr (slot_ne (Or.inl (hw _ (List.mem_of_getElem? (i := 67) rfl))) (Or.inr (hw _ (List.mem_of_getElem? (i := 52) rfl))) (by decide) (t := (.object "java/util/function/IntPredicate")) (t' := (.array .int)) (by decide) (by decide))))) (Or.inr (slot_ne (Or.inl (hw _ (List.mem_of_getElem? (i := 67) rfl))) (Or.inr (hw _ (List.mem_of_getElem? (i := 54) rfl))) (by decide) (t := (.object "java/util/function/IntPredicate")) (t' := (.array .int)) (by decide) (by decide))))) (Or.inr (slot_ne (Or.inl (hw _ (List.mem_of_getElem? (i := 67) rfl))) (Or.inr (hw _ (List.mem_of_getElem? (i := 56) rfl))) (by decide) (t := (.object "java/util/function/IntPredicate")) (t' := (.array .int)) (by decide) (by decide))))) (Or.inr (slot_ne (Or.inl (hw _ (List.mem_of_getElem? (i := 67) rfl))) (Or.inr (hw _ (List.mem_of_getElem? (i := 58) rfl))) (by decide) (t := (.object "java/util/function/IntPredicate")) (t' := (.array .int)) (by decide) (by decide))))
  have ne210 : b168 ≠ b173 := Nat.ne_of_lt (Nat.lt_of_lt_of_le A168.lt (Nat.le_trans (Nat.le_trans (Nat.le_refl _) (Nat.le_of_eq W170.size.symm)) (Nat.le_of_eq g173.symm)))
  exact Go.retV C X198 rfl d3_230 (by rw [e198]; exact ⟨b168, k168, b173, k173, rfl, N198, K201, z_b168, z_b173, c202, c204, c205, c207, c208, c209, ne210⟩) (by decide) (by decide)
def Q_ct6 (Z : State) (r : Addr) (q : Addr) (v : Addr) (k : ClassId) (h0 : Heap) (rv : Option Value) (h : Heap) (L : List Loc) : Prop := ∃ vi : Addr, ∃ ki : ClassId, ∃ vp : Addr, ∃ kp : ClassId, rv = none ∧ Fr Z.heap.size L ∧ Keep h0 h [r] ∧ h0.size ≤ vi ∧ h0.size ≤ vp ∧ Fld Z h r "com/example/opacheck/opacheck/PrecedenceTraversal" "visitedIn" "[I" (.ref vi) ∧ AL Z h vi ki .int [(.int (0 : Int32)), (.int (0 : Int32)), (.int (0 : Int32)), (.int (0 : Int32)), (.int (0 : Int32)), (.int (0 : Int32))] ∧ Fld Z h r "com/example/opacheck/opacheck/PrecedenceTraversal" "positions" "[I" (.ref vp) ∧ AL Z h vp kp .int [(.int (0 : Int32)), (.int (0 : Int32)), (.int (0 : Int32)), (.int (0 : Int32)), (.int (0 : Int32)), (.int (0 : Int32))] ∧ Fld Z h r "com/example/opacheck/opacheck/PrecedenceTraversal" "number" "I" (.int (0 : Int32)) ∧ Fld Z h r "com/example/opacheck/opacheck/PrecedenceTraversal" "scope" "Ljava/util/function/IntPredicate;" .null ∧ vi ≠ vp
set_option maxRecDepth 65536 in
set_option maxHeartbeats 40000000 in
theorem rm_ct6 (l : Launch) (Z : State) (a0 : Array Value) (hw : ∀ d ∈ tables_1, d.before a0 Z = true) (r : Addr) (q : Addr) (v : Addr) (k : ClassId) (h0 : Heap) (O0 : Ext Z.heap h0) (E0 : Exa Z h0 r "com/example/opacheck/opacheck/PrecedenceTraversal") (Fmembers : Fld Z h0 r "com/example/opacheck/opacheck/PrecedenceTraversal" "members" "[I" .null) (Franges : Fld Z h0 r "com/example/opacheck/opacheck/PrecedenceTraversal" "ranges" "[[I" .null) (FvisitedIn : Fld Z h0 r "com/example/opacheck/opacheck/PrecedenceTraversal" "visitedIn" "[I" .null) (Fpositions : Fld Z h0 r "com/example/opacheck/opacheck/PrecedenceTraversal" "positions" "[I" .null) (Flinks : Fld Z h0 r "com/example/opacheck/opacheck/PrecedenceTraversal" "links" "[I" .null) (FlinkedIn : Fld Z h0 r "com/example/opacheck/opacheck/PrecedenceTraversal" "linkedIn" "[I" .null) (Fpath : Fld Z h0 r "com/example/opacheck/opacheck/PrecedenceTraversal" "path" "[I" .null) (Fnum : Fld Z h0 r "com/example/opacheck/opacheck/PrecedenceTraversal" "number" "I" (.int (0 : Int32))) (Fsc : Fld Z h0 r "com/example/opacheck/opacheck/PrecedenceTraversal" "scope" "Ljava/util/function/IntPredicate;" .null) (Gm : Fld Z h0 q "com/example/opacheck/opacheck/PrecedenceTraversal$Neighbours" "members" "[I" (.ref v)) (Am : AL Z h0 v k .int [(.int (0 : Int32)), (.int (0 : Int32)), (.int (0 : Int32)), (.int (0 : Int32)), (.int (0 : Int32)), (.int (0 : Int32)), (.int (0 : Int32)), (.int (0 : Int32)), (.int (0 : Int32)), (.int (0 : Int32)), (.int (0 : Int32)), (.int (0 : Int32)), (.int (0 : Int32)), (.int (0 : Int32)), (.int (0 : Int32)), (.int (0 : Int32))]) (Gs : Fld Z h0 q "com/example/opacheck/opacheck/PrecedenceTraversal$Neighbours" "size" "I" (.int (0 : Int32))) (Gr : Fld Z h0 q "com/example/opacheck/opacheck/PrecedenceTraversal$Neighbours" "rangesSize" "I" (.int (0 : Int32))) (Gc : Fld Z h0 q "com/example/opacheck/opacheck/PrecedenceTraversal$Neighbours" "count" "I" (.int (6 : Int32))) (hn : Z.heap.size ≤ r) (hne : r ≠ q) (hnv : r ≠ v) :
    Met1 l Z (⟨"com/example/opacheck/opacheck/PrecedenceTraversal", "<init>", "(Lcom/example/opacheck/opacheck/PrecedenceTraversal$Neighbours;)V"⟩ : MethodName) prog_45_method_2_code 7 none ({ frames := 2, cells := 17, slots := 50, locals := 33 } : Room) #[(.ref r), (.ref q)] h0 (Q_ct6 Z r q v k h0) := by
  refine Met1.of_body (Ls := #[.val (.ref r), .val (.ref q), .unset, .unset, .unset, .unset, .unset]) pf_3 (fun m => by first | (simp [entryFrame, mkF, argsToLocals, Value.category]; done) | rfl) ?_
  intro p e s m below meth c T0 C X0 e0
  have N0 : Fr Z.heap.size [] := Fr.nil _
  refine Go.aloadN (pc' := 1) C X0 d3_0 rfl rfl rfl ?_
  refine Go.initO (pc' := 4) (W := 0) C X0 (hw _ (List.mem_of_getElem? (i := 23) rfl)) (hw _ (List.mem_of_getElem? (i := 8) rfl)) (hw _ (List.mem_of_getElem? (i := 9) rfl)) e0 rfl (by decide) (Nat.le_of_eq rfl) (by decide) d3_1 rfl ?_
  intro T101 X101 e101
  refine Go.aloadN (pc' := 5) C X101 d3_4 rfl rfl rfl ?_
  refine Go.getFR (pc' := 8) C X101 (hw _ (List.mem_of_getElem? (i := 24) rfl)) e101 Gc d3_5 rfl ?_
  refine Go.istoreN (Ls' := #[.val (.ref r), .val (.ref q), .val (.int (6 : Int32)), .unset, .unset, .unset, .unset]) (pc' := 9) C X101 d3_8 rfl rfl ?_
  refine Go.aloadN (pc' := 10) C X101 d3_9 rfl rfl rfl ?_
  refine Go.aloadN (pc' := 11) C X101 d3_10 rfl rfl rfl ?_
  refine Go.getFR (pc' := 14) C X101 (hw _ (List.mem_of_getElem? (i := 25) rfl)) e101 Gm d3_11 rfl ?_
  refine Go.aloadN (pc' := 15) C X101 d3_14 rfl rfl rfl ?_
  refine Go.getFR (pc' := 18) C X101 (hw _ (List.mem_of_getElem? (i := 26) rfl)) e101 Gs d3_15 rfl ?_
  refine Go.callS (y := (⟨"java/util/Arrays", "copyOf", "([II)[I"⟩ : MethodName)) (pc' := 21) C X101 (hw _ (List.mem_of_getElem? (i := 28) rfl)) (hw _ (List.mem_of_getElem? (i := 29) rfl)) (by decide) (rm_cpy l Z a0 hw v k h0 O0 Am) (hw _ (List.mem_of_getElem? (i := 31) rfl)) (hw _ (List.mem_of_getElem? (i := 30) rfl)) e101 (argsL := [(.ref v), (.int (0 : Int32))]) (rest := [(.ref r)]) (W := 1) rfl rfl pd_1 rfl (Nat.le_of_eq rfl) rfl (by decide) (by decide) (by decide) (by decide) d3_18 rfl ?_
  intro T105 v105 L105 X105 q105
  obtain ⟨b_105, kb_105, rfl, N105q, K105, B105_0, P105_0⟩ := q105
  have N105 := Fr.app N0 N105q
  have n_b_105 : Z.heap.size ≤ b_105 := Nat.le_trans O0.1 B105_0
  have z_b_105 : h0.size ≤ b_105 := Nat.le_trans (Nat.le_refl _) B105_0
  have c107 : Fld Z T105.heap r "com/example/opacheck/opacheck/PrecedenceTraversal" "members" "[I" .null := (Fld.keep Fmembers K105 nin0)
  have c108 : Exa Z T105.heap r "com/example/opacheck/opacheck/PrecedenceTraversal" := (Exa.keep E0 K105)
  refine Go.putF (pc' := 24) (host := "") (ty := (.array .int)) C X105 (Or.inl (hw _ (List.mem_of_getElem? (i := 40) rfl))) Via.refl rfl c107 c108 (Or.inr ⟨(hw _ (List.mem_of_getElem? (i := 41) rfl)), rfl, rfl⟩) (hw _ (List.mem_of_getElem? (i := 18) rfl)) (by decide) rfl rfl d3_21 rfl ?_
  intro T106 h106 X106 e106 W106 F106
  have N106 := Fr.snoc X106 N105 hn
  refine Go.iloadN (pc' := 25) C X106 d3_24 rfl rfl ?_
  have O110 : Ext Z.heap h106 := (Ext.wr (Ext.keep O0 K105 all0) W106 hn)
  refine Go.newP (aty := .int) (cap := 6) (vs := [(.int (0 : Int32)), (.int (0 : Int32)), (.int (0 : Int32)), (.int (0 : Int32)), (.int (0 : Int32)), (.int (0 : Int32))]) (ad := "[I") (pc' := 27) C X106 (by decide) (hw _ (List.mem_of_getElem? (i := 10) rfl)) e106 (by decide) (by decide) (by decide) (by decide) (by decide) rfl d3_25 rfl ?_
  intro T109 h109 b109 k109 X109 e109 g109 E109 A109 Ea109
  have n_b109 : Z.heap.size ≤ b109 := Nat.le_trans O110.1 (Nat.le_of_eq g109.symm)
  have z_b109 : h0.size ≤ b109 := Nat.le_trans (Nat.le_trans (Nat.le_trans (Nat.le_refl _) K105.1) (Nat.le_of_eq W106.size.symm)) (Nat.le_of_eq g109.symm)
  have A109 : AL Z h109 b109 k109 .int [(.int (0 : Int32)), (.int (0 : Int32)), (.int (0 : Int32)), (.int (0 : Int32)), (.int (0 : Int32)), (.int (0 : Int32))] := A109
  refine Go.astoreN (Ls' := #[.val (.ref r), .val (.ref q), .val (.int (6 : Int32)), .val (.ref b109), .unset, .unset, .unset]) (pc' := 28) C X109 d3_27 rfl rfl rfl ?_
  refine Go.iconst (z := (0 : Int32)) (pc' := 29) C X109 d3_28 rfl rfl ?_
  refine Go.istore (Ls' := #[.val (.ref r), .val (.ref q), .val (.int (6 : Int32)), .val (.ref b109), .val (.int (0 : Int32)), .unset, .unset]) (pc' := 31) C X109 d3_29 rfl rfl ?_
  refine Go.iload (pc' := 33) C X109 d3_31 rfl rfl ?_
  refine Go.aloadN (pc' := 34) C X109 d3_33 rfl rfl rfl ?_
  have c112 : Fld Z h109 q "com/example/opacheck/opacheck/PrecedenceTraversal$Neighbours" "rangesSize" "I" (.int (0 : Int32)) := (Fld.ext E109 (Fld.other W106 (Fld.keep Gr K105 nin0) (Or.inl (Ne.symm hne))))
  refine Go.getFR (pc' := 37) C X109 (hw _ (List.mem_of_getElem? (i := 42) rfl)) e109 c112 d3_34 rfl ?_
  refine Go.icmpYes (pc' := 59) C X109 d3_37 (flt (x := (0 : Int32)) (y := (0 : Int32)) (by decide)).2.1 (by decide) (by decide) ?_
  refine Go.aloadN (pc' := 60) C X109 d3_59 rfl rfl rfl ?_
  refine Go.iloadN (pc' := 61) C X109 d3_60 rfl rfl ?_
  have O115 : Ext Z.heap h109 := (Ext.trans O110 E109)
  refine Go.newRA (ty := .int) (cap := 6) (vs := [.null, .null, .null, .null, .null, .null]) (ad := "[[I") (pc' := 64) C X109 (by decide) (by decide) (hw _ (List.mem_of_getElem? (i := 44) rfl)) (hw _ (List.mem_of_getElem? (i := 45) rfl)) e109 (by decide) (by decide) (by decide) (by decide) (by decide) rfl d3_61 rfl ?_
  intro T114 h114 b114 k114 X114 e114 g114 E114 A114 Ea114 O114v
  have n_b114 : Z.heap.size ≤ b114 := Nat.le_trans O115.1 (Nat.le_of_eq g114.symm)
  have z_b114 : h0.size ≤ b114 := Nat.le_trans (Nat.le_trans (Nat.le_trans (Nat.le_trans (Nat.le_refl _) K105.1) (Nat.le_of_eq W106.size.symm)) E109.1) (Nat.le_of_eq g114.symm)
  have A114 : AL Z h114 b114 k114 (.array .int) [.null, .null, .null, .null, .null, .null] := A114
  have c117 : Fld Z h114 r "com/example/opacheck/opacheck/PrecedenceTraversal" "ranges" "[[I" .null := (Fld.ext E114 (Fld.ext E109 (Fld.other W106 (Fld.keep Franges K105 nin0) (Or.inr (slot_ne (Or.inr (hw _ (List.mem_of_getElem? (i := 47) rfl))) (Or.inr (hw _ (List.mem_of_getElem? (i := 41) rfl))) (by decide) (t := (.array (.array .int))) (t' := (.array .int)) (by decide) (by decide))))))
  have c118 : Exa Z h114 r "com/example/opacheck/opacheck/PrecedenceTraversal" := (Exa.ext E114 (Exa.ext E109 (Exa.wr W106 c108)))
  refine Go.putF (pc' := 67) (host := "") (ty := (.array (.array .int))) C X114 (Or.inl (hw _ (List.mem_of_getElem? (i := 46) rfl))) Via.refl e114 c117 c118 (Or.inr ⟨(hw _ (List.mem_of_getElem? (i := 47) rfl)), rfl, rfl⟩) (hw _ (List.mem_of_getElem? (i := 18) rfl)) (by decide) rfl rfl d3_64 rfl ?_
  intro T116 h116 X116 e116 W116 F116
  have N116 := Fr.snoc X116 N106 hn
  refine Go.iconst (z := (0 : Int32)) (pc' := 68) C X116 d3_67 rfl rfl ?_
  refine Go.istore (Ls' := #[.val (.ref r), .val (.ref q), .val (.int (6 : Int32)), .val (.ref b109), .val (.int (0 : Int32)), .unset, .unset]) (pc' := 70) C X116 d3_68 rfl rfl ?_
  refine Go.iload (pc' := 72) C X116 d3_70 rfl rfl ?_
  refine Go.iloadN (pc' := 73) C X116 d3_72 rfl rfl ?_
  refine Go.icmpNo (pc' := 76) C X116 d3_73 (tlt (x := (0 : Int32)) (y := (6 : Int32)) (by decide)).2.1 rfl ?_
  refine Go.aloadN (pc' := 77) C X116 d3_76 rfl rfl rfl ?_
  refine Go.getF (pc' := 80) (host := "") C X116 (Or.inl (hw _ (List.mem_of_getElem? (i := 46) rfl))) Via.refl e116 F116 d3_77 rfl ?_
  intro T120 X120 e120
  refine Go.iload (pc' := 82) C X120 d3_80 rfl rfl ?_
  refine Go.iconst (z := (2 : Int32)) (pc' := 83) C X120 d3_82 rfl rfl ?_
  refine Go.aloadN (pc' := 84) C X120 d3_83 rfl rfl rfl ?_
  refine Go.iload (pc' := 86) C X120 d3_84 rfl rfl ?_
  have ne121 : b109 ≠ r := (Nat.ne_of_gt (Nat.lt_of_lt_of_le E0.lt (Nat.le_trans (Nat.le_trans (Nat.le_trans (Nat.le_refl _) K105.1) (Nat.le_of_eq W106.size.symm)) (Nat.le_of_eq g109.symm))))
  have c122 : AL Z h116 b109 k109 .int [(.int (0 : Int32)), (.int (0 : Int32)), (.int (0 : Int32)), (.int (0 : Int32)), (.int (0 : Int32)), (.int (0 : Int32))] := (AL.other W116 (AL.ext E114 A109) ne121)
  refine Go.ldI (i := 0) (v := (.int (0 : Int32))) (pc' := 87) C X120 e120 c122 (by decide) (by decide) rfl d3_86 rfl ?_
  refine Go.imul (pc' := 88) C X120 d3_87 rfl ?_
  rw [show ((2 : Int32) * (0 : Int32)) = (0 : Int32) from by decide]
  have O124 : Ext Z.heap h116 := (Ext.wr (Ext.trans O115 E114) W116 hn)
  refine Go.newP (aty := .int) (cap := 0) (vs := []) (ad := "[I") (pc' := 90) C X120 (by decide) (hw _ (List.mem_of_getElem? (i := 10) rfl)) e120 (by decide) (by decide) (by decide) (by decide) (by decide) rfl d3_88 rfl ?_
  intro T123 h123 b123 k123 X123 e123 g123 E123 A123 Ea123
  have n_b123 : Z.heap.size ≤ b123 := Nat.le_trans O124.1 (Nat.le_of_eq g123.symm)
  have z_b123 : h0.size ≤ b123 := Nat.le_trans (Nat.le_trans (Nat.le_trans (Nat.le_trans (Nat.le_trans (Nat.le_trans (Nat.le_refl _) K105.1) (Nat.le_of_eq W106.size.symm)) E109.1) E114.1) (Nat.le_of_eq W116.size.symm)) (Nat.le_of_eq g123.symm)
  have A123 : AL Z h123 b123 k123 .int [] := A123
  have ne125 : b114 ≠ r := (Nat.ne_of_gt (Nat.lt_of_lt_of_le E0.lt (Nat.le_trans (Nat.le_trans (Nat.le_trans (Nat.le_trans (Nat.le_refl _) K105.1) (Nat.le_of_eq W106.size.symm)) E109.1) (Nat.le_of_eq g114.symm))))
  have c126 : AL Z h123 b114 k114 (.array .int) [.null, .null, .null, .null, .null, .null] := (AL.ext E123 (AL.other W116 A114 ne125))
  refine Go.stR (i := 0) (vs' := [(.ref b123), .null, .null, .null, .null, .null]) (pc' := 91) C X123 e123 c126 (by decide) (by decide) (by simp) rfl (AL.stoA c126 O114v (Ins.self Ea123)) rfl d3_90 rfl ?_
  intro T127 h127 X127 e127 W127 A127
  have N127 := Fr.snoc X127 N116 n_b114
  refine Go.iinc (Ls' := #[.val (.ref r), .val (.ref q), .val (.int (6 : Int32)), .val (.ref b109), .val (.int ((0 : Int32) + (1 : Int32))), .unset, .unset]) (z := (1 : Int32)) (pc' := 94) C X127 d3_91 rfl rfl rfl rfl ?_
  rw [show ((0 : Int32) + (1 : Int32)) = (1 : Int32) from by decide]
  refine Go.goto (pc' := 70) C X127 d3_94 (by decide) (by decide) ?_
  refine Go.iload (pc' := 72) C X127 d3_70 rfl rfl ?_
  refine Go.iloadN (pc' := 73) C X127 d3_72 rfl rfl ?_
  refine Go.icmpNo (pc' := 76) C X127 d3_73 (tlt (x := (1 : Int32)) (y := (6 : Int32)) (by decide)).2.1 rfl ?_
  refine Go.aloadN (pc' := 77) C X127 d3_76 rfl rfl rfl ?_
  have c130 : Fld Z h127 r "com/example/opacheck/opacheck/PrecedenceTraversal" "ranges" "[[I" (.ref b114) := (Fld.other W127 (Fld.ext E123 F116) (Or.inl (Ne.symm ne125)))
  refine Go.getF (pc' := 80) (host := "") C X127 (Or.inl (hw _ (List.mem_of_getElem? (i := 46) rfl))) Via.refl e127 c130 d3_77 rfl ?_
  intro T129 X129 e129
  refine Go.iload (pc' := 82) C X129 d3_80 rfl rfl ?_
  refine Go.iconst (z := (2 : Int32)) (pc' := 83) C X129 d3_82 rfl rfl ?_
  refine Go.aloadN (pc' := 84) C X129 d3_83 rfl rfl rfl ?_
  refine Go.iload (pc' := 86) C X129 d3_84 rfl rfl ?_
  have ne131 : b109 ≠ b114 := Nat.ne_of_lt (Nat.lt_of_lt_of_le A109.lt (Nat.le_trans (Nat.le_refl _) (Nat.le_of_eq g114.symm)))
  have c132 : AL Z h127 b109 k109 .int [(.int (0 : Int32)), (.int (0 : Int32)), (.int (0 : Int32)), (.int (0 : Int32)), (.int (0 : Int32)), (.int (0 : Int32))] := (AL.other W127 (AL.ext E123 c122) ne131)
  refine Go.ldI (i := 1) (v := (.int (0 : Int32))) (pc' := 87) C X129 e129 c132 (by decide) (by decide) rfl d3_86 rfl ?_
  refine Go.imul (pc' := 88) C X129 d3_87 rfl ?_
  rw [show ((2 : Int32) * (0 : Int32)) = (0 : Int32) from by decide]
  have O134 : Ext Z.heap h127 := (Ext.wr (Ext.trans O124 E123) W127 n_b114)
  refine Go.newP (aty := .int) (cap := 0) (vs := []) (ad := "[I") (pc' := 90) C X129 (by decide) (hw _ (List.mem_of_getElem? (i := 10) rfl)) e129 (by decide) (by decide) (by decide) (by decide) (by decide) rfl d3_88 rfl ?_
  intro T133 h133 b133 k133 X133 e133 g133 E133 A133 Ea133
  have n_b133 : Z.heap.size ≤ b133 := Nat.le_trans O134.1 (Nat.le_of_eq g133.symm)
  have z_b133 : h0.size ≤ b133 := Nat.le_trans (Nat.le_trans (Nat.le_trans (Nat.le_trans (Nat.le_trans (Nat.le_trans (Nat.le_trans (Nat.le_trans (Nat.le_refl _) K105.1) (Nat.le_of_eq W106.size.symm)) E109.1) E114.1) (Nat.le_of_eq W116.size.symm)) E123.1) (Nat.le_of_eq W127.size.symm)) (Nat.le_of_eq g133.symm)
  have A133 : AL Z h133 b133 k133 .int [] := A133
  have c135 : AL Z h133 b114 k114 (.array .int) [(.ref b123), .null, .null, .null, .null, .null] := (AL.ext E133 A127)
  refine Go.stR (i := 1) (vs' := [(.ref b123), (.ref b133), .null, .null, .null, .null]) (pc' := 91) C X133 e133 c135 (by decide) (by decide) (by simp) rfl (AL.stoA c135 O114v (Ins.self Ea133)) rfl d3_90 rfl ?_
  intro T136 h136 X136 e136 W136 A136
  have N136 := Fr.snoc X136 N127 n_b114
  refine Go.iinc (Ls' := #[.val (.ref r), .val (.ref q), .val (.int (6 : Int32)), .val (.ref b109), .val (.int ((1 : Int32) + (1 : Int32))), .unset, .unset]) (z := (1 : Int32)) (pc' := 94) C X136 d3_91 rfl rfl rfl rfl ?_
  rw [show ((1 : Int32) + (1 : Int32)) = (2 : Int32) from by decide]
  refine Go.goto (pc' := 70) C X136 d3_94 (by decide) (by decide) ?_
  refine Go.iload (pc' := 72) C X136 d3_70 rfl rfl ?_
  refine Go.iloadN (pc' := 73) C X136 d3_72 rfl rfl ?_
  refine Go.icmpNo (pc' := 76) C X136 d3_73 (tlt (x := (2 : Int32)) (y := (6 : Int32)) (by decide)).2.1 rfl ?_
  refine Go.aloadN (pc' := 77) C X136 d3_76 rfl rfl rfl ?_
  have c139 : Fld Z h136 r "com/example/opacheck/opacheck/PrecedenceTraversal" "ranges" "[[I" (.ref b114) := (Fld.other W136 (Fld.ext E133 c130) (Or.inl (Ne.symm ne125)))
  refine Go.getF (pc' := 80) (host := "") C X136 (Or.inl (hw _ (List.mem_of_getElem? (i := 46) rfl))) Via.refl e136 c139 d3_77 rfl ?_
  intro T138 X138 e138
  refine Go.iload (pc' := 82) C X138 d3_80 rfl rfl ?_
  refine Go.iconst (z := (2 : Int32)) (pc' := 83) C X138 d3_82 rfl rfl ?_
  refine Go.aloadN (pc' := 84) C X138 d3_83 rfl rfl rfl ?_
  refine Go.iload (pc' := 86) C X138 d3_84 rfl rfl ?_
  have c140 : AL Z h136 b109 k109 .int [(.int (0 : Int32)), (.int (0 : Int32)), (.int (0 : Int32)), (.int (0 : Int32)), (.int (0 : Int32)), (.int (0 : Int32))] := (AL.other W136 (AL.ext E133 c132) ne131)
  refine Go.ldI (i := 2) (v := (.int (0 : Int32))) (pc' := 87) C X138 e138 c140 (by decide) (by decide) rfl d3_86 rfl ?_
  refine Go.imul (pc' := 88) C X138 d3_87 rfl ?_
  rw [show ((2 : Int32) * (0 : Int32)) = (0 : Int32) from by decide]
  have O142 : Ext Z.heap h136 := (Ext.wr (Ext.trans O134 E133) W136 n_b114)
  refine Go.newP (aty := .int) (cap := 0) (vs := []) (ad := "[I") (pc' := 90) C X138 (by decide) (hw _ (List.mem_of_getElem? (i := 10) rfl)) e138 (by decide) (by decide) (by decide) (by decide) (by decide) rfl d3_88 rfl ?_
  intro T141 h141 b141 k141 X141 e141 g141 E141 A141 Ea141
  have n_b141 : Z.heap.size ≤ b141 := Nat.le_trans O142.1 (Nat.le_of_eq g141.symm)
  have z_b141 : h0.size ≤ b141 := Nat.le_trans (Nat.le_trans (Nat.le_trans (Nat.le_trans (Nat.le_trans (Nat.le_trans (Nat.le_trans (Nat.le_trans (Nat.le_trans (Nat.le_trans (Nat.le_refl _) K105.1) (Nat.le_of_eq W106.size.symm)) E109.1) E114.1) (Nat.le_of_eq W116.size.symm)) E123.1) (Nat.le_of_eq W127.size.symm)) E133.1) (Nat.le_of_eq W136.size.symm)) (Nat.le_of_eq g141.symm)
  have A141 : AL Z h141 b141 k141 .int [] := A141
  have c143 : AL Z h141 b114 k114 (.array .int) [(.ref b123), (.ref b133), .null, .null, .null, .null] := (AL.ext E141 A136)
  refine Go.stR (i := 2) (vs' := [(.ref b123), (.ref b133), (.ref b141), .null, .null, .null]) (pc' := 91) C X141 e141 c143 (by decide) (by decide) (by simp) rfl (AL.stoA c143 O114v (Ins.self Ea141)) rfl d3_90 rfl ?_
  intro T144 h144 X144 e144 W144 A144
  have N144 := Fr.snoc X144 N136 n_b114
  refine Go.iinc (Ls' := #[.val (.ref r), .val (.ref q), .val (.int (6 : Int32)), .val (.ref b109), .val (.int ((2 : Int32) + (1 : Int32))), .unset, .unset]) (z := (1 : Int32)) (pc' := 94) C X144 d3_91 rfl rfl rfl rfl ?_
  rw [show ((2 : Int32) + (1 : Int32)) = (3 : Int32) from by decide]
  refine Go.goto (pc' := 70) C X144 d3_94 (by decide) (by decide) ?_
  refine Go.iload (pc' := 72) C X144 d3_70 rfl rfl ?_
  refine Go.iloadN (pc' := 73) C X144 d3_72 rfl rfl ?_
  refine Go.icmpNo (pc' := 76) C X144 d3_73 (tlt (x := (3 : Int32)) (y := (6 : Int32)) (by decide)).2.1 rfl ?_
  refine Go.aloadN (pc' := 77) C X144 d3_76 rfl rfl rfl ?_
  have c147 : Fld Z h144 r "com/example/opacheck/opacheck/PrecedenceTraversal" "ranges" "[[I" (.ref b114) := (Fld.other W144 (Fld.ext E141 c139) (Or.inl (Ne.symm ne125)))
  refine Go.getF (pc' := 80) (host := "") C X144 (Or.inl (hw _ (List.mem_of_getElem? (i := 46) rfl))) Via.refl e144 c147 d3_77 rfl ?_
  intro T146 X146 e146
  refine Go.iload (pc' := 82) C X146 d3_80 rfl rfl ?_
  refine Go.iconst (z := (2 : Int32)) (pc' := 83) C X146 d3_82 rfl rfl ?_
  refine Go.aloadN (pc' := 84) C X146 d3_83 rfl rfl rfl ?_
  refine Go.iload (pc' := 86) C X146 d3_84 rfl rfl ?_
  have c148 : AL Z h144 b109 k109 .int [(.int (0 : Int32)), (.int (0 : Int32)), (.int (0 : Int32)), (.int (0 : Int32)), (.int (0 : Int32)), (.int (0 : Int32))] := (AL.other W144 (AL.ext E141 c140) ne131)
  refine Go.ldI (i := 3) (v := (.int (0 : Int32))) (pc' := 87) C X146 e146 c148 (by decide) (by decide) rfl d3_86 rfl ?_
  refine Go.imul (pc' := 88) C X146 d3_87 rfl ?_
  rw [show ((2 : Int32) * (0 : Int32)) = (0 : Int32) from by decide]
  have O150 : Ext Z.heap h144 := (Ext.wr (Ext.trans O142 E141) W144 n_b114)
  refine Go.newP (aty := .int) (cap := 0) (vs := []) (ad := "[I") (pc' := 90) C X146 (by decide) (hw _ (List.mem_of_getElem? (i := 10) rfl)) e146 (by decide) (by decide) (by decide) (by decide) (by decide) rfl d3_88 rfl ?_
  intro T149 h149 b149 k149 X149 e149 g149 E149 A149 Ea149
  have n_b149 : Z.heap.size ≤ b149 := Nat.le_trans O150.1 (Nat.le_of_eq g149.symm)
  have z_b149 : h0.size ≤ b149 := Nat.le_trans (Nat.le_trans (Nat.le_trans (Nat.le_trans (Nat.le_trans (Nat.le_trans (Nat.le_trans (Nat.le_trans (Nat.le_trans (Nat.le_trans (Nat.le_trans (Nat.le_trans (Nat.le_refl _) K105.1) (Nat.le_of_eq W106.size.symm)) E109.1) E114.1) (Nat.le_of_eq W116.size.symm)) E123.1) (Nat.le_of_eq W127.size.symm)) E133.1) (Nat.le_of_eq W136.size.symm)) E141.1) (Nat.le_of_eq W144.size.symm)) (Nat.le_of_eq g149.symm)
  have A149 : AL Z h149 b149 k149 .int [] := A149
  have c151 : AL Z h149 b114 k114 (.array .int) [(.ref b123), (.ref b133), (.ref b141), .null, .null, .null] := (AL.ext E149 A144)
  refine Go.stR (i := 3) (vs' := [(.ref b123), (.ref b133), (.ref b141), (.ref b149), .null, .null]) (pc' := 91) C X149 e149 c151 (by decide) (by decide) (by simp) rfl (AL.stoA c151 O114v (Ins.self Ea149)) rfl d3_90 rfl ?_
  intro T152 h152 X152 e152 W152 A152
  have N152 := Fr.snoc X152 N144 n_b114
  refine Go.iinc (Ls' := #[.val (.ref r), .val (.ref q), .val (.int (6 : Int32)), .val (.ref b109), .val (.int ((3 : Int32) + (1 : Int32))), .unset, .unset]) (z := (1 : Int32)) (pc' := 94) C X152 d3_91 rfl rfl rfl rfl ?_
  rw [show ((3 : Int32) + (1 : Int32)) = (4 : Int32) from by decide]
  refine Go.goto (pc' := 70) C X152 d3_94 (by decide) (by decide) ?_
  refine Go.iload (pc' := 72) C X152 d3_70 rfl rfl ?_
  refine Go.iloadN (pc' := 73) C X152 d3_72 rfl rfl ?_
  refine Go.icmpNo (pc' := 76) C X152 d3_73 (tlt (x := (4 : Int32)) (y := (6 : Int32)) (by decide)).2.1 rfl ?_
  refine Go.aloadN (pc' := 77) C X152 d3_76 rfl rfl rfl ?_
  have c155 : Fld Z h152 r "com/example/opacheck/opacheck/PrecedenceTraversal" "ranges" "[[I" (.ref b114) := (Fld.other W152 (Fld.ext E149 c147) (Or.inl (Ne.symm ne125)))
  refine Go.getF (pc' := 80) (host := "") C X152 (Or.inl (hw _ (List.mem_of_getElem? (i := 46) rfl))) Via.refl e152 c155 d3_77 rfl ?_
  intro T154 X154 e154
  refine Go.iload (pc' := 82) C X154 d3_80 rfl rfl ?_
  refine Go.iconst (z := (2 : Int32)) (pc' := 83) C X154 d3_82 rfl rfl ?_
  refine Go.aloadN (pc' := 84) C X154 d3_83 rfl rfl rfl ?_
  refine Go.iload (pc' := 86) C X154 d3_84 rfl rfl ?_
  have c156 : AL Z h152 b109 k109 .int [(.int (0 : Int32)), (.int (0 : Int32)), (.int (0 : Int32)), (.int (0 : Int32)), (.int (0 : Int32)), (.int (0 : Int32))] := (AL.other W152 (AL.ext E149 c148) ne131)
  refine Go.ldI (i := 4) (v := (.int (0 : Int32))) (pc' := 87) C X154 e154 c156 (by decide) (by decide) rfl d3_86 rfl ?_
  refine Go.imul (pc' := 88) C X154 d3_87 rfl ?_
  rw [show ((2 : Int32) * (0 : Int32)) = (0 : Int32) from by decide]
  have O158 : Ext Z.heap h152 := (Ext.wr (Ext.trans O150 E149) W152 n_b114)
  refine Go.newP (aty := .int) (cap := 0) (vs := []) (ad := "[I") (pc' := 90) C X154 (by decide) (hw _ (List.mem_of_getElem? (i := 10) rfl)) e154 (by decide) (by decide) (by decide) (by decide) (by decide) rfl d3_88 rfl ?_
  intro T157 h157 b157 k157 X157 e157 g157 E157 A157 Ea157
  have n_b157 : Z.heap.size ≤ b157 := Nat.le_trans O158.1 (Nat.le_of_eq g157.symm)
  have z_b157 : h0.size ≤ b157 := Nat.le_trans (Nat.le_trans (Nat.le_trans (Nat.le_trans (Nat.le_trans (Nat.le_trans (Nat.le_trans (Nat.le_trans (Nat.le_trans (Nat.le_trans (Nat.le_trans (Nat.le_trans (Nat.le_trans (Nat.le_trans (Nat.le_refl _) K105.1) (Nat.le_of_eq W106.size.symm)) E109.1) E114.1) (Nat.le_of_eq W116.size.symm)) E123.1) (Nat.le_of_eq W127.size.symm)) E133.1) (Nat.le_of_eq W136.size.symm)) E141.1) (Nat.le_of_eq W144.size.symm)) E149.1) (Nat.le_of_eq W152.size.symm)) (Nat.le_of_eq g157.symm)
  have A157 : AL Z h157 b157 k157 .int [] := A157
  have c159 : AL Z h157 b114 k114 (.array .int) [(.ref b123), (.ref b133), (.ref b141), (.ref b149), .null, .null] := (AL.ext E157 A152)
  refine Go.stR (i := 4) (vs' := [(.ref b123), (.ref b133), (.ref b141), (.ref b149), (.ref b157), .null]) (pc' := 91) C X157 e157 c159 (by decide) (by decide) (by simp) rfl (AL.stoA c159 O114v (Ins.self Ea157)) rfl d3_90 rfl ?_
  intro T160 h160 X160 e160 W160 A160
  have N160 := Fr.snoc X160 N152 n_b114
  refine Go.iinc (Ls' := #[.val (.ref r), .val (.ref q), .val (.int (6 : Int32)), .val (.ref b109), .val (.int ((4 : Int32) + (1 : Int32))), .unset, .unset]) (z := (1 : Int32)) (pc' := 94) C X160 d3_91 rfl rfl rfl rfl ?_
  rw [show ((4 : Int32) + (1 : Int32)) = (5 : Int32) from by decide]
  refine Go.goto (pc' := 70) C X160 d3_94 (by decide) (by decide) ?_
  refine Go.iload (pc' := 72) C X160 d3_70 rfl rfl ?_
  refine Go.iloadN (pc' := 73) C X160 d3_72 rfl rfl ?_
  refine Go.icmpNo (pc' := 76) C X160 d3_73 (tlt (x := (5 : Int32)) (y := (6 : Int32)) (by decide)).2.1 rfl ?_
  refine Go.aloadN (pc' := 77) C X160 d3_76 rfl rfl rfl ?_
  have c163 : Fld Z h160 r "com/example/opacheck/opacheck/PrecedenceTraversal" "ranges" "[[I" (.ref b114) := (Fld.other W160 (Fld.ext E157 c155) (Or.inl (Ne.symm ne125)))
  refine Go.getF (pc' := 80) (host := "") C X160 (Or.inl (hw _ (List.mem_of_getElem? (i := 46) rfl))) Via.refl e160 c163 d3_77 rfl ?_
  intro T162 X162 e162
  refine Go.iload (pc' := 82) C X162 d3_80 rfl rfl ?_
  refine Go.iconst (z := (2 : Int32)) (pc' := 83) C X162 d3_82 rfl rfl ?_
  refine Go.aloadN (pc' := 84) C X162 d3_83 rfl rfl rfl ?_
  refine Go.iload (pc' := 86) C X162 d3_84 rfl rfl ?_
  have c164 : AL Z h160 b109 k109 .int [(.int (0 : Int32)), (.int (0 : Int32)), (.int (0 : Int32)), (.int (0 : Int32)), (.int (0 : Int32)), (.int (0 : Int32))] := (AL.other W160 (AL.ext E157 c156) ne131)
  refine Go.ldI (i := 5) (v := (.int (0 : Int32))) (pc' := 87) C X162 e162 c164 (by decide) (by decide) rfl d3_86 rfl ?_
  refine Go.imul (pc' := 88) C X162 d3_87 rfl ?_
  rw [show ((2 : Int32) * (0 : Int32)) = (0 : Int32) from by decide]
  have O166 : Ext Z.heap h160 := (Ext.wr (Ext.trans O158 E157) W160 n_b114)
  refine Go.newP (aty := .int) (cap := 0) (vs := []) (ad := "[I") (pc' := 90) C X162 (by decide) (hw _ (List.mem_of_getElem? (i := 10) rfl)) e162 (by decide) (by decide) (by decide) (by decide) (by decide) rfl d3_88 rfl ?_
  intro T165 h165 b165 k165 X165 e165 g165 E165 A165 Ea165
  have n_b165 : Z.heap.size ≤ b165 := Nat.le_trans O166.1 (Nat.le_of_eq g165.symm)
  have z_b165 : h0.size ≤ b165 := Nat.le_trans (Nat.le_trans (Nat.le_trans (Nat.le_trans (Nat.le_trans (Nat.le_trans (Nat.le_trans (Nat.le_trans (Nat.le_trans (Nat.le_trans (Nat.le_trans (Nat.le_trans (Nat.le_trans (Nat.le_trans (Nat.le_trans (Nat.le_trans (Nat.le_refl _) K105.1) (Nat.le_of_eq W106.size.symm)) E109.1) E114.1) (Nat.le_of_eq W116.size.symm)) E123.1) (Nat.le_of_eq W127.size.symm)) E133.1) (Nat.le_of_eq W136.size.symm)) E141.1) (Nat.le_of_eq W144.size.symm)) E149.1) (Nat.le_of_eq W152.size.symm)) E157.1) (Nat.le_of_eq W160.size.symm)) (Nat.le_of_eq g165.symm)
  have A165 : AL Z h165 b165 k165 .int [] := A165
  have c167 : AL Z h165 b114 k114 (.array .int) [(.ref b123), (.ref b133), (.ref b141), (.ref b149), (.ref b157), .null] := (AL.ext E165 A160)
  refine Go.stR (i := 5) (vs' := [(.ref b123), (.ref b133), (.ref b141), (.ref b149), (.ref b157), (.ref b165)]) (pc' := 91) C X165 e165 c167 (by decide) (by decide) (by simp) rfl (AL.stoA c167 O114v (Ins.self Ea165)) rfl d3_90 rfl ?_
  intro T168 h168 X168 e168 W168 A168
  have N168 := Fr.snoc X168 N160 n_b114
  refine Go.iinc (Ls' := #[.val (.ref r), .val (.ref q), .val (.int (6 : Int32)), .val (.ref b109), .val (.int ((5 : Int32) + (1 : Int32))), .unset, .unset]) (z := (1 : Int32)) (pc' := 94) C X168 d3_91 rfl rfl rfl rfl ?_
  rw [show ((5 : Int32) + (1 : Int32)) = (6 : Int32) from by decide]
  refine Go.goto (pc' := 70) C X168 d3_94 (by decide) (by decide) ?_
  refine Go.iload (pc' := 72) C X168 d3_70 rfl rfl ?_
  refine Go.iloadN (pc' := 73) C X168 d3_72 rfl rfl ?_
  refine Go.icmpYes (pc' := 97) C X168 d3_73 (flt (x := (6 : Int32)) (y := (6 : Int32)) (by decide)).2.1 (by decide) (by decide) ?_
  refine Go.iloadN (pc' := 98) C X168 d3_97 rfl rfl ?_
  have O171 : Ext Z.heap h168 := (Ext.wr (Ext.trans O166 E165) W168 n_b114)
  refine Go.newP (aty := .int) (cap := 6) (vs := [(.int (0 : Int32)), (.int (0 : Int32)), (.int (0 : Int32)), (.int (0 : Int32)), (.int (0 : Int32)), (.int (0 : Int32))]) (ad := "[I") (pc' := 100) C X168 (by decide) (hw _ (List.mem_of_getElem? (i := 10) rfl)) e168 (by decide) (by decide) (by decide) (by decide) (by decide) rfl d3_98 rfl ?_
  intro T170 h170 b170 k170 X170 e170 g170 E170 A170 Ea170
  have n_b170 : Z.heap.size ≤ b170 := Nat.le_trans O171.1 (Nat.le_of_eq g170.symm)
  have z_b170 : h0.size ≤ b170 := Nat.le_trans (Nat.le_trans (Nat.le_trans (Nat.le_trans (Nat.le_trans (Nat.le_trans (Nat.le_trans (Nat.le_trans (Nat.le_trans (Nat.le_trans (Nat.le_trans (Nat.le_trans (Nat.le_trans (Nat.le_trans (Nat.le_trans (Nat.le_trans (Nat.le_trans (Nat.le_trans (Nat.le_refl _) K105.1) (Nat.le_of_eq W106.size.symm)) E109.1) E114.1) (Nat.le_of_eq W116.size.symm)) E123.1) (Nat.le_of_eq W127.size.symm)) E133.1) (Nat.le_of_eq W136.size.symm)) E141.1) (Nat.le_of_eq W144.size.symm)) E149.1) (Nat.le_of_eq W152.size.symm)) E157.1) (Nat.le_of_eq W160.size.symm)) E165.1) (Nat.le_of_eq W168.size.symm)) (Nat.le_of_eq g170.symm)
  have A170 : AL Z h170 b170 k170 .int [(.int (0 : Int32)), (.int (0 : Int32)), (.int (0 : Int32)), (.int (0 : Int32)), (.int (0 : Int32)), (.int (0 : Int32))] := A170
  refine Go.astore (Ls' := #[.val (.ref r), .val (.ref q), .val (.int (6 : Int32)), .val (.ref b109), .val (.ref b170), .unset, .unset]) (pc' := 102) C X170 d3_100 rfl rfl rfl ?_
  refine Go.iconst (z := (0 : Int32)) (pc' := 103) C X170 d3_102 rfl rfl ?_
  refine Go.istore (Ls' := #[.val (.ref r), .val (.ref q), .val (.int (6 : Int32)), .val (.ref b109), .val (.ref b170), .val (.int (0 : Int32)), .unset]) (pc' := 105) C X170 d3_103 rfl rfl ?_
  refine Go.iload (pc' := 107) C X170 d3_105 rfl rfl ?_
  refine Go.aloadN (pc' := 108) C X170 d3_107 rfl rfl rfl ?_
  have ne173 : q ≠ b114 := Nat.ne_of_lt (Nat.lt_of_lt_of_le Gm.lt (Nat.le_trans (Nat.le_trans (Nat.le_trans (Nat.le_trans (Nat.le_refl _) K105.1) (Nat.le_of_eq W106.size.symm)) E109.1) (Nat.le_of_eq g114.symm)))
  have c174 : Fld Z h170 q "com/example/opacheck/opacheck/PrecedenceTraversal$Neighbours" "rangesSize" "I" (.int (0 : Int32)) := (Fld.ext E170 (Fld.other W168 (Fld.ext E165 (Fld.other W160 (Fld.ext E157 (Fld.other W152 (Fld.ext E149 (Fld.other W144 (Fld.ext E141 (Fld.other W136 (Fld.ext E133 (Fld.other W127 (Fld.ext E123 (Fld.other W116 (Fld.ext E114 c112) (Or.inl (Ne.symm hne)))) (Or.inl ne173))) (Or.inl ne173))) (Or.inl ne173))) (Or.inl ne173))) (Or.inl ne173))) (Or.inl ne173)))
  refine Go.getFR (pc' := 111) C X170 (hw _ (List.mem_of_getElem? (i := 42) rfl)) e170 c174 d3_108 rfl ?_
  refine Go.icmpYes (pc' := 183) C X170 d3_111 (flt (x := (0 : Int32)) (y := (0 : Int32)) (by decide)).2.1 (by decide) (by decide) ?_
  refine Go.aloadN (pc' := 184) C X170 d3_183 rfl rfl rfl ?_
  refine Go.iloadN (pc' := 185) C X170 d3_184 rfl rfl ?_
  have O177 : Ext Z.heap h170 := (Ext.trans O171 E170)
  refine Go.newP (aty := .int) (cap := 6) (vs := [(.int (0 : Int32)), (.int (0 : Int32)), (.int (0 : Int32)), (.int (0 : Int32)), (.int (0 : Int32)), (.int (0 : Int32))]) (ad := "[I") (pc' := 187) C X170 (by decide) (hw _ (List.mem_of_getElem? (i := 10) rfl)) e170 (by decide) (by decide) (by decide) (by decide) (by decide) rfl d3_185 rfl ?_
  intro T176 h176 b176 k176 X176 e176 g176 E176 A176 Ea176
  have n_b176 : Z.heap.size ≤ b176 := Nat.le_trans O177.1 (Nat.le_of_eq g176.symm)
  have z_b176 : h0.size ≤ b176 := Nat.le_trans (Nat.le_trans (Nat.le_trans (Nat.le_trans (Nat.le_trans (Nat.le_trans (Nat.le_trans (Nat.le_trans (Nat.le_trans (Nat.le_trans (Nat.le_trans (Nat.le_trans (Nat.le_trans (Nat.le_trans (Nat.le_trans (Nat.le_trans (Nat.le_trans (Nat.le_trans (Nat.le_trans (Nat.le_refl _) K105.1) (Nat.le_of_eq W106.size.symm)) E109.1) E114.1) (Nat.le_of_eq W116.size.symm)) E123.1) (Nat.le_of_eq W127.size.symm)) E133.1) (Nat.le_of_eq W136.size.symm)) E141.1) (Nat.le_of_eq W144.size.symm)) E149.1) (Nat.le_of_eq W152.size.symm)) E157.1) (Nat.le_of_eq W160.size.symm)) E165.1) (Nat.le_of_eq W168.size.symm)) E170.1) (Nat.le_of_eq g176.symm)
  have A176 : AL Z h176 b176 k176 .int [(.int (0 : Int32)), (.int (0 : Int32)), (.int (0 : Int32)), (.int (0 : Int32)), (.int (0 : Int32)), (.int (0 : Int32))] := A176
  have c179 : Fld Z h176 r "com/example/opacheck/opacheck/PrecedenceTraversal" "visitedIn" "[I" .null := (Fld.ext E176 (Fld.ext E170 (Fld.other W168 (Fld.ext E165 (Fld.other W160 (Fld.ext E157 (Fld.other W152 (Fld.ext E149 (Fld.other W144 (Fld.ext E141 (Fld.other W136 (Fld.ext E133 (Fld.other W127 (Fld.ext E123 (Fld.other W116 (Fld.ext E114 (Fld.ext E109 (Fld.other W106 (Fld.keep FvisitedIn K105 nin0) (Or.inr (slot_ne (Or.inr (hw _ (List.mem_of_getElem? (i := 50) rfl))) (Or.inr (hw _ (List.mem_of_getElem? (i := 41) rfl))) (by decide) (t := (.array .int)) (t' := (.array .int)) (by decide) (by decide)))))) (Or.inr (slot_ne (Or.inr (hw _ (List.mem_of_getElem? (i := 50) rfl))) (Or.inr (hw _ (List.mem_of_getElem? (i := 47) rfl))) (by decide) (t := (.array .int)) (t' := (.array (.array .int))) (by decide) (by decide))))) (Or.inl (Ne.symm ne125)))) (Or.inl (Ne.symm ne125)))) (Or.inl (Ne.symm ne125)))) (Or.inl (Ne.symm ne125)))) (Or.inl (Ne.symm ne125)))) (Or.inl (Ne.symm ne125)))))
  have c180 : Exa Z h176 r "com/example/opacheck/opacheck/PrecedenceTraversal" := (Exa.ext E176 (Exa.ext E170 (Exa.wr W168 (Exa.ext E165 (Exa.wr W160 (Exa.ext E157 (Exa.wr W152 (Exa.ext E149 (Exa.wr W144 (Exa.ext E141 (Exa.wr W136 (Exa.ext E133 (Exa.wr W127 (Exa.ext E123 (Exa.wr W116 c118)))))))))))))))
  refine Go.putF (pc' := 190) (host := "") (ty := (.array .int)) C X176 (Or.inl (hw _ (List.mem_of_getElem? (i := 49) rfl))) Via.refl e176 c179 c180 (Or.inr ⟨(hw _ (List.mem_of_getElem? (i := 50) rfl)), rfl, rfl⟩) (hw _ (List.mem_of_getElem? (i := 18) rfl)) (by decide) rfl rfl d3_187 rfl ?_
  intro T178 h178 X178 e178 W178 F178
  have N178 := Fr.snoc X178 N168 hn
  refine Go.aloadN (pc' := 191) C X178 d3_190 rfl rfl rfl ?_
  refine Go.iloadN (pc' := 192) C X178 d3_191 rfl rfl ?_
  have O182 : Ext Z.heap h178 := (Ext.wr (Ext.trans O177 E176) W178 hn)
  refine Go.newP (aty := .int) (cap := 6) (vs := [(.int (0 : Int32)), (.int (0 : Int32)), (.int (0 : Int32)), (.int (0 : Int32)), (.int (0 : Int32)), (.int (0 : Int32))]) (ad := "[I") (pc' := 194) C X178 (by decide) (hw _ (List.mem_of_getElem? (i := 10) rfl)) e178 (by decide) (by decide) (by decide) (by decide) (by decide) rfl d3_192 rfl ?_
  intro T181 h181 b181 k181 X181 e181 g181 E181 A181 Ea181
  have n_b181 : Z.heap.size ≤ b181 := Nat.le_trans O182.1 (Nat.le_of_eq g181.symm)
  have z_b181 : h0.size ≤ b181 := Nat.le_trans (Nat.le_trans (Nat.le_trans (Nat.le_trans (Nat.le_trans (Nat.le_trans (Nat.le_trans (Nat.le_trans (Nat.le_trans (Nat.le_trans (Nat.le_trans (Nat.le_trans (Nat.le_trans (Nat.le_trans (Nat.le_trans (Nat.le_trans (Nat.le_trans (Nat.le_trans (Nat.le_trans (Nat.le_trans (Nat.le_trans (Nat.le_refl _) K105.1) (Nat.le_of_eq W106.size.symm)) E109.1) E114.1) (Nat.le_of_eq W116.size.symm)) E123.1) (Nat.le_of_eq W127.size.symm)) E133.1) (Nat.le_of_eq W136.size.symm)) E141.1) (Nat.le_of_eq W144.size.symm)) E149.1) (Nat.le_of_eq W152.size.symm)) E157.1) (Nat.le_of_eq W160.size.symm)) E165.1) (Nat.le_of_eq W168.size.symm)) E170.1) E176.1) (Nat.le_of_eq W178.size.symm)) (Nat.le_of_eq g181.symm)
  have A181 : AL Z h181 b181 k181 .int [(.int (0 : Int32)), (.int (0 : Int32)), (.int (0 : Int32)), (.int (0 : Int32)), (.int (0 : Int32)), (.int (0 : Int32))] := A181
  have c184 : Fld Z h181 r "com/example/opacheck/opacheck/PrecedenceTraversal" "positions" "[I" .null := (Fld.ext E181 (Fld.other W178 (Fld.ext E176 (Fld.ext E170 (Fld.other W168 (Fld.ext E165 (Fld.other W160 (Fld.ext E157 (Fld.other W152 (Fld.ext E149 (Fld.other W144 (Fld.ext E141 (Fld.other W136 (Fld.ext E133 (Fld.other W127 (Fld.ext E123 (Fld.other W116 (Fld.ext E114 (Fld.ext E109 (Fld.other W106 (Fld.keep Fpositions K105 nin0) (Or.inr (slot_ne (Or.inr (hw _ (List.mem_of_getElem? (i := 52) rfl))) (Or.inr (hw _ (List.mem_of_getElem? (i := 41) rfl))) (by decide) (t := (.array .int)) (t' := (.array .int)) (by decide) (by decide)))))) (Or.inr (slot_ne (Or.inr (hw _ (List.mem_of_getElem? (i := 52) rfl))) (Or.inr (hw _ (List.mem_of_getElem? (i := 47) rfl))) (by decide) (t := (.array .int)) (t' := (.array (.array .int))) (by decide) (by decide))))) (Or.inl (Ne.symm ne125)))) (Or.inl (Ne.symm ne125)))) (Or.inl (Ne.symm ne125)))) (Or.inl (Ne.symm ne125)))) (Or.inl (Ne.symm ne125)))) (Or.inl (Ne.symm ne125))))) (Or.inr (slot_ne (Or.inr (hw _ (List.mem_of_getElem? (i := 52) rfl))) (Or.inr (hw _ (List.mem_of_getElem? (i := 50) rfl))) (by decide) (t := (.array .int)) (t' := (.array .int)) (by decide) (by decide)))))
  have c185 : Exa Z h181 r "com/example/opacheck/opacheck/PrecedenceTraversal" := (Exa.ext E181 (Exa.wr W178 c180))
  refine Go.putF (pc' := 197) (host := "") (ty := (.array .int)) C X181 (Or.inl (hw _ (List.mem_of_getElem? (i := 51) rfl))) Via.refl e181 c184 c185 (Or.inr ⟨(hw _ (List.mem_of_getElem? (i := 52) rfl)), rfl, rfl⟩) (hw _ (List.mem_of_getElem? (i := 18) rfl)) (by decide) rfl rfl d3_194 rfl ?_
  intro T183 h183 X183 e183 W183 F183
  have N183 := Fr.snoc X183 N178 hn
  refine Go.aloadN (pc' := 198) C X183 d3_197 rfl rfl rfl ?_
  refine Go.aloadN (pc' := 199) C X183 d3_198 rfl rfl rfl ?_
  have c187 : Fld Z h183 r "com/example/opacheck/opacheck/PrecedenceTraversal" "members" "[I" (.ref b_105) := (Fld.other W183 (Fld.ext E181 (Fld.other W178 (Fld.ext E176 (Fld.ext E170 (Fld.other W168 (Fld.ext E165 (Fld.other W160 (Fld.ext E157 (Fld.other W152 (Fld.ext E149 (Fld.other W144 (Fld.ext E141 (Fld.other W136 (Fld.ext E133 (Fld.other W127 (Fld.ext E123 (Fld.other W116 (Fld.ext E114 (Fld.ext E109 F106)) (Or.inr (slot_ne (Or.inr (hw _ (List.mem_of_getElem? (i := 41) rfl))) (Or.inr (hw _ (List.mem_of_getElem? (i := 47) rfl))) (by decide) (t := (.array .int)) (t' := (.array (.array .int))) (by decide) (by decide))))) (Or.inl (Ne.symm ne125)))) (Or.inl (Ne.symm ne125)))) (Or.inl (Ne.symm ne125)))) (Or.inl (Ne.symm ne125)))) (Or.inl (Ne.symm ne125)))) (Or.inl (Ne.symm ne125))))) (Or.inr (slot_ne (Or.inr (hw _ (List.mem_of_getElem? (i := 41) rfl))) (Or.inr (hw _ (List.mem_of_getElem? (i := 50) rfl))) (by decide) (t := (.array .int)) (t' := (.array .int)) (by decide) (by decide))))) (Or.inr (slot_ne (Or.inr (hw _ (List.mem_of_getElem? (i := 41) rfl))) (Or.inr (hw _ (List.mem_of_getElem? (i := 52) rfl))) (by decide) (t := (.array .int)) (t' := (.array .int)) (by decide) (by decide))))
  refine Go.getF (pc' := 202) (host := "") C X183 (Or.inl (hw _ (List.mem_of_getElem? (i := 40) rfl))) Via.refl e183 c187 d3_199 rfl ?_
  intro T186 X186 e186
  have ne188 : b_105 ≠ r := (Nat.ne_of_gt (Nat.lt_of_lt_of_le E0.lt (Nat.le_trans (Nat.le_refl _) B105_0)))
  have ne189 : b_105 ≠ b114 := Nat.ne_of_lt (Nat.lt_of_lt_of_le P105_0.lt (Nat.le_trans (Nat.le_trans (Nat.le_trans (Nat.le_refl _) (Nat.le_of_eq W106.size.symm)) E109.1) (Nat.le_of_eq g114.symm)))
  have c190 : AL Z h183 b_105 kb_105 .int [] := (AL.other W183 (AL.ext E181 (AL.other W178 (AL.ext E176 (AL.ext E170 (AL.other W168 (AL.ext E165 (AL.other W160 (AL.ext E157 (AL.other W152 (AL.ext E149 (AL.other W144 (AL.ext E141 (AL.other W136 (AL.ext E133 (AL.other W127 (AL.ext E123 (AL.other W116 (AL.ext E114 (AL.ext E109 (AL.other W106 P105_0 ne188))) ne188)) ne189)) ne189)) ne189)) ne189)) ne189)) ne189))) ne188)) ne188)
  refine Go.alen (z := (0 : Int32)) (pc' := 203) C X186 e186 c190 rfl d3_202 rfl ?_
  refine Go.iconst (z := (1 : Int32)) (pc' := 204) C X186 d3_203 rfl rfl ?_
  refine Go.iadd (pc' := 205) C X186 d3_204 rfl ?_
  rw [show ((0 : Int32) + (1 : Int32)) = (1 : Int32) from by decide]
  have O192 : Ext Z.heap h183 := (Ext.wr (Ext.trans O182 E181) W183 hn)
  refine Go.newP (aty := .int) (cap := 1) (vs := [(.int (0 : Int32))]) (ad := "[I") (pc' := 207) C X186 (by decide) (hw _ (List.mem_of_getElem? (i := 10) rfl)) e186 (by decide) (by decide) (by decide) (by decide) (by decide) rfl d3_205 rfl ?_
  intro T191 h191 b191 k191 X191 e191 g191 E191 A191 Ea191
  have n_b191 : Z.heap.size ≤ b191 := Nat.le_trans O192.1 (Nat.le_of_eq g191.symm)
  have z_b191 : h0.size ≤ b191 := Nat.le_trans (Nat.le_trans (Nat.le_trans (Nat.le_trans (Nat.le_trans (Nat.le_trans (Nat.le_trans (Nat.le_trans (Nat.le_trans (Nat.le_trans (Nat.le_trans (Nat.le_trans (Nat.le_trans (Nat.le_trans (Nat.le_trans (Nat.le_trans (Nat.le_trans (Nat.le_trans (Nat.le_trans (Nat.le_trans (Nat.le_trans (Nat.le_trans (Nat.le_trans (Nat.le_refl _) K105.1) (Nat.le_of_eq W106.size.symm)) E109.1) E114.1) (Nat.le_of_eq W116.size.symm)) E123.1) (Nat.le_of_eq W127.size.symm)) E133.1) (Nat.le_of_eq W136.size.symm)) E141.1) (Nat.le_of_eq W144.size.symm)) E149.1) (Nat.le_of_eq W152.size.symm)) E157.1) (Nat.le_of_eq W160.size.symm)) E165.1) (Nat.le_of_eq W168.size.symm)) E170.1) E176.1) (Nat.le_of_eq W178.size.symm)) E181.1) (Nat.le_of_eq W183.size.symm)) (Nat.le_of_eq g191.symm)
  have A191 : AL Z h191 b191 k191 .int [(.int (0 : Int32))] := A191
  have c194 : Fld Z h191 r "com/example/opacheck/opacheck/PrecedenceTraversal" "links" "[I" .null := (Fld.ext E191 (Fld.other W183 (Fld.ext E181 (Fld.other W178 (Fld.ext E176 (Fld.ext E170 (Fld.other W168 (Fld.ext E165 (Fld.other W160 (Fld.ext E157 (Fld.other W152 (Fld.ext E149 (Fld.other W144 (Fld.ext E141 (Fld.other W136 (Fld.ext E133 (Fld.other W127 (Fld.ext E123 (Fld.other W116 (Fld.ext E114 (Fld.ext E109 (Fld.other W106 (Fld.keep Flinks K105 nin0) (Or.inr (slot_ne (Or.inr (hw _ (List.mem_of_getElem? (i := 54) rfl))) (Or.inr (hw _ (List.mem_of_getElem? (i := 41) rfl))) (by decide) (t := (.array .int)) (t' := (.array .int)) (by decide) (by decide)))))) (Or.inr (slot_ne (Or.inr (hw _ (List.mem_of_getElem? (i := 54) rfl))) (Or.inr (hw _ (List.mem_of_getElem? (i := 47) rfl))) (by decide) (t := (.array .int)) (t' := (.array (.array .int))) (by decide) (by decide))))) (Or.inl (Ne.symm ne125)))) (Or.inl (Ne.symm ne125)))) (Or.inl (Ne.symm ne125)))) (Or.inl (Ne.symm ne125)))) (Or.inl (Ne.symm ne125)))) (Or.inl (Ne.symm ne125))))) (Or.inr (slot_ne (Or.inr (hw _ (List.mem_of_getElem? (i := 54) rfl))) (Or.inr (hw _ (List.mem_of_getElem? (i := 50) rfl))) (by decide) (t := (.array .int)) (t' := (.array .int)) (by decide) (by decide))))) (Or.inr (slot_ne (Or.inr (hw _ (List.mem_of_getElem? (i := 54) rfl))) (Or.inr (hw _ (List.mem_of_getElem? (i := 52) rfl))) (by decide) (t := (.array .int)) (t' := (.array .int)) (by decide) (by decide)))))
  have c195 : Exa Z h191 r "com/example/opacheck/opacheck/PrecedenceTraversal" := (Exa.ext E191 (Exa.wr W183 c185))
  refine Go.putF (pc' := 210) (host := "") (ty := (.array .int)) C X191 (Or.inl (hw _ (List.mem_of_getElem? (i := 53) rfl))) Via.refl e191 c194 c195 (Or.inr ⟨(hw _ (List.mem_of_getElem? (i := 54) rfl)), rfl, rfl⟩) (hw _ (List.mem_of_getElem? (i := 18) rfl)) (by decide) rfl rfl d3_207 rfl ?_
  intro T193 h193 X193 e193 W193 F193
  have N193 := Fr.snoc X193 N183 hn
  refine Go.aloadN (pc' := 211) C X193 d3_210 rfl rfl rfl ?_
  refine Go.aloadN (pc' := 212) C X193 d3_211 rfl rfl rfl ?_
  have c197 : Fld Z h193 r "com/example/opacheck/opacheck/PrecedenceTraversal" "members" "[I" (.ref b_105) := (Fld.other W193 (Fld.ext E191 c187) (Or.inr (slot_ne (Or.inr (hw _ (List.mem_of_getElem? (i := 41) rfl))) (Or.inr (hw _ (List.mem_of_getElem? (i := 54) rfl))) (by decide) (t := (.array .int)) (t' := (.array .int)) (by decide) (by decide))))
  refine Go.getF (pc' := 215) (host := "") C X193 (Or.inl (hw _ (List.mem_of_getElem? (i := 40) rfl))) Via.refl e193 c197 d3_212 rfl ?_
  intro T196 X196 e196
  have c198 : AL Z h193 b_105 kb_105 .int [] := (AL.other W193 (AL.ext E191 c190) ne188)
  refine Go.alen (z := (0 : Int32)) (pc' := 216) C X196 e196 c198 rfl d3_215 rfl ?_
  refine Go.iconst (z := (1 : Int32)) (pc' := 217) C X196 d3_216 rfl rfl ?_
  refine Go.iadd (pc' := 218) C X196 d3_217 rfl ?_
  rw [show ((0 : Int32) + (1 : Int32)) = (1 : Int32) from by decide]
  have O200 : Ext Z.heap h193 := (Ext.wr (Ext.trans O192 E191) W193 hn)
  refine Go.newP (aty := .int) (cap := 1) (vs := [(.int (0 : Int32))]) (ad := "[I") (pc' := 220) C X196 (by decide) (hw _ (List.mem_of_getElem? (i := 10) rfl)) e196 (by decide) (by decide) (by decide) (by decide) (by decide) rfl d3_218 rfl ?_
  intro T199 h199 b199 k199 X199 e199 g199 E199 A199 Ea199
  have n_b199 : Z.heap.size ≤ b199 := Nat.le_trans O200.1 (Nat.le_of_eq g199.symm)
  have z_b199 : h0.size ≤ b199 := Nat.le_trans (Nat.le_trans (Nat.le_trans (Nat.le_trans (Nat.le_trans (Nat.le_trans (Nat.le_trans (Nat.le_trans (Nat.le_trans (Nat.le_trans (Nat.le_trans (Nat.le_trans (Nat.le_trans (Nat.le_trans (Nat.le_trans (Nat.le_trans (Nat.le_trans (Nat.le_trans (Nat.le_trans (Nat.le_trans (Nat.le_trans (Nat.le_trans (Nat.le_trans (Nat.le_trans (Nat.le_trans (Nat.le_refl _) K105.1) (Nat.le_of_eq W106.size.symm)) E109.1) E114.1) (Nat.le_of_eq W116.size.symm)) E123.1) (Nat.le_of_eq W127.size.symm)) E133.1) (Nat.le_of_eq W136.size.symm)) E141.1) (Nat.le_of_eq W144.size.symm)) E149.1) (Nat.le_of_eq W152.size.symm)) E157.1) (Nat.le_of_eq W160.size.symm)) E165.1) (Nat.le_of_eq W168.size.symm)) E170.1) E176.1) (Nat.le_of_eq W178.size.symm)) E181.1) (Nat.le_of_eq W183.size.symm)) E191.1) (Nat.le_of_eq W193.size.symm)) (Nat.le_of_eq g199.symm)
  have A199 : AL Z h199 b199 k199 .int [(.int (0 : Int32))] := A199
  have c202 : Fld Z h199 r "com/example/opacheck/opacheck/PrecedenceTraversal" "linkedIn" "[I" .null := (Fld.ext E199 (Fld.other W193 (Fld.ext E191 (Fld.other W183 (Fld.ext E181 (Fld.other W178 (Fld.ext E176 (Fld.ext E170 (Fld.other W168 (Fld.ext E165 (Fld.other W160 (Fld.ext E157 (Fld.other W152 (Fld.ext E149 (Fld.other W144 (Fld.ext E141 (Fld.other W136 (Fld.ext E133 (Fld.other W127 (Fld.ext E123 (Fld.other W116 (Fld.ext E114 (Fld.ext E109 (Fld.other W106 (Fld.keep FlinkedIn K105 nin0) (Or.inr (slot_ne (Or.inr (hw _ (List.mem_of_getElem? (i := 56) rfl))) (Or.inr (hw _ (List.mem_of_getElem? (i := 41) rfl))) (by decide) (t := (.array .int)) (t' := (.array .int)) (by decide) (by decide)))))) (Or.inr (slot_ne (Or.inr (hw _ (List.mem_of_getElem? (i := 56) rfl))) (Or.inr (hw _ (List.mem_of_getElem? (i := 47) rfl))) (by decide) (t := (.array .int)) (t' := (.array (.array .int))) (by decide) (by decide))))) (Or.inl (Ne.symm ne125)))) (Or.inl (Ne.symm ne125)))) (Or.inl (Ne.symm ne125)))) (Or.inl (Ne.symm ne125)))) (Or.inl (Ne.symm ne125)))) (Or.inl (Ne.symm ne125))))) (Or.inr (slot_ne (Or.inr (hw _ (List.mem_of_getElem? (i := 56) rfl))) (Or.inr (hw _ (List.mem_of_getElem? (i := 50) rfl))) (by decide) (t := (.array .int)) (t' := (.array .int)) (by decide) (by decide))))) (Or.inr (slot_ne (Or.inr (hw _ (List.mem_of_getElem? (i := 56) rfl))) (Or.inr (hw _ (List.mem_of_getElem? (i := 52) rfl))) (by decide) (t := (.array .int)) (t' := (.array .int)) (by decide) (by decide))))) (Or.inr (slot_ne (Or.inr (hw _ (List.mem_of_getElem? (i := 56) rfl))) (Or.inr (hw _ (List.mem_of_getElem? (i := 54) rfl))) (by decide) (t := (.array .int)) (t' := (.array .int)) (by decide) (by decide)))))
  have c203 : Exa Z h199 r "com/example/opacheck/opacheck/PrecedenceTraversal" := (Exa.ext E199 (Exa.wr W193 c195))
  refine Go.putF (pc' := 223) (host := "") (ty := (.array .int)) C X199 (Or.inl (hw _ (List.mem_of_getElem? (i := 55) rfl))) Via.refl e199 c202 c203 (Or.inr ⟨(hw _ (List.mem_of_getElem? (i := 56) rfl)), rfl, rfl⟩) (hw _ (List.mem_of_getElem? (i := 18) rfl)) (by decide) rfl rfl d3_220 rfl ?_
  intro T201 h201 X201 e201 W201 F201
  have N201 := Fr.snoc X201 N193 hn
  refine Go.aloadN (pc' := 224) C X201 d3_223 rfl rfl rfl ?_
  refine Go.iloadN (pc' := 225) C X201 d3_224 rfl rfl ?_
  have O205 : Ext Z.heap h201 := (Ext.wr (Ext.trans O200 E199) W201 hn)
  refine Go.newP (aty := .int) (cap := 6) (vs := [(.int (0 : Int32)), (.int (0 : Int32)), (.int (0 : Int32)), (.int (0 : Int32)), (.int (0 : Int32)), (.int (0 : Int32))]) (ad := "[I") (pc' := 227) C X201 (by decide) (hw _ (List.mem_of_getElem? (i := 10) rfl)) e201 (by decide) (by decide) (by decide) (by decide) (by decide) rfl d3_225 rfl ?_
  intro T204 h204 b204 k204 X204 e204 g204 E204 A204 Ea204
  have n_b204 : Z.heap.size ≤ b204 := Nat.le_trans O205.1 (Nat.le_of_eq g204.symm)
  have z_b204 : h0.size ≤ b204 := Nat.le_trans (Nat.le_trans (Nat.le_trans (Nat.le_trans (Nat.le_trans (Nat.le_trans (Nat.le_trans (Nat.le_trans (Nat.le_trans (Nat.le_trans (Nat.le_trans (Nat.le_trans (Nat.le_trans (Nat.le_trans (Nat.le_trans (Nat.le_trans (Nat.le_trans (Nat.le_trans (Nat.le_trans (Nat.le_trans (Nat.le_trans (Nat.le_trans (Nat.le_trans (Nat.le_trans (Nat.le_trans (Nat.le_trans (Nat.le_trans (Nat.le_refl _) K105.1) (Nat.le_of_eq W106.size.symm)) E109.1) E114.1) (Nat.le_of_eq W116.size.symm)) E123.1) (Nat.le_of_eq W127.size.symm)) E133.1) (Nat.le_of_eq W136.size.symm)) E141.1) (Nat.le_of_eq W144.size.symm)) E149.1) (Nat.le_of_eq W152.size.symm)) E157.1) (Nat.le_of_eq W160.size.symm)) E165.1) (Nat.le_of_eq W168.size.symm)) E170.1) E176.1) (Nat.le_of_eq W178.size.symm)) E181.1) (Nat.le_of_eq W183.size.symm)) E191.1) (Nat.le_of_eq W193.size.symm)) E199.1) (Nat.le_of_eq W201.size.symm)) (Nat.le_of_eq g204.symm)
  have A204 : AL Z h204 b204 k204 .int [(.int (0 : Int32)), (.int (0 : Int32)), (.int (0 : Int32)), (.int (0 : Int32)), (.int (0 : Int32)), (.int (0 : Int32))] := A204
  have c207 : Fld Z h204 r "com/example/opacheck/opacheck/PrecedenceTraversal" "path" "[I" .null := (Fld.ext E204 (Fld.other W201 (Fld.ext E199 (Fld.other W193 (Fld.ext E191 (Fld.other W183 (Fld.ext E181 (Fld.other W178 (Fld.ext E176 (Fld.ext E170 (Fld.other W168 (Fld.ext E165 (Fld.other W160 (Fld.ext E157 (Fld.other W152 (Fld.ext E149 (Fld.other W144 (Fld.ext E141 (Fld.other W136 (Fld.ext E133 (Fld.other W127 (Fld.ext E123 (Fld.other W116 (Fld.ext E114 (Fld.ext E109 (Fld.other W106 (Fld.keep Fpath K105 nin0) (Or.inr (slot_ne (Or.inr (hw _ (List.mem_of_getElem? (i := 58) rfl))) (Or.inr (hw _ (List.mem_of_getElem? (i := 41) rfl))) (by decide) (t := (.array .int)) (t' := (.array .int)) (by decide) (by decide)))))) (Or.inr (slot_ne (Or.inr (hw _ (List.mem_of_getElem? (i := 58) rfl))) (Or.inr (hw _ (List.mem_of_getElem? (i := 47) rfl))) (by decide) (t := (.array .int)) (t' := (.array (.array .int))) (by decide) (by decide))))) (Or.inl (Ne.symm ne125)))) (Or.inl (Ne.symm ne125)))) (Or.inl (Ne.symm ne125)))) (Or.inl (Ne.symm ne125)))) (Or.inl (Ne.symm ne125)))) (Or.inl (Ne.symm ne125))))) (Or.inr (slot_ne (Or.inr (hw _ (List.mem_of_getElem? (i := 58) rfl))) (Or.inr (hw _ (List.mem_of_getElem? (i := 50) rfl))) (by decide) (t := (.array .int)) (t' := (.array .int)) (by decide) (by decide))))) (Or.inr (slot_ne (Or.inr (hw _ (List.mem_of_getElem? (i := 58) rfl))) (Or.inr (hw _ (List.mem_of_getElem? (i := 52) rfl))) (by decide) (t := (.array .int)) (t' := (.array .int)) (by decide) (by decide))))) (Or.inr (slot_ne (Or.inr (hw _ (List.mem_of_getElem? (i := 58) rfl))) (Or.inr (hw _ (List.mem_of_getElem? (i := 54) rfl))) (by decide) (t := (.array .int)) (t' := (.array .int)) (by decide) (by decide))))) (Or.inr (slot_ne (Or.inr (hw _ (List.mem_of_getElem? (i := 58) rfl))) (Or.inr (hw _ (List.mem_of_getElem? (i := 56) rfl))) (by decide) (t := (.array .int)) (t' := (.array .int)) (by decide) (by decide)))))
  have c208 : Exa Z h204 r "com/example/opacheck/opacheck/PrecedenceTraversal" := (Exa.ext E204 (Exa.wr W201 c203))
  refine Go.putF (pc' := 230) (host := "") (ty := (.array .int)) C X204 (Or.inl (hw _ (List.mem_of_getElem? (i := 57) rfl))) Via.refl e204 c207 c208 (Or.inr ⟨(hw _ (List.mem_of_getElem? (i := 58) rfl)), rfl, rfl⟩) (hw _ (List.mem_of_getElem? (i := 18) rfl)) (by decide) rfl rfl d3_227 rfl ?_
  intro T206 h206 X206 e206 W206 F206
  have N206 := Fr.snoc X206 N201 hn
  have K209 : Keep h0 h206 [r] := (((((((((((((((((((((((((((((Keep.refl h0 [r]).trans K105 all0).wr W106 (Or.inl (by simp))).ext E109).ext E114).wr W116 (Or.inl (by simp))).ext E123).wr W127 (Or.inr z_b114)).ext E133).wr W136 (Or.inr z_b114)).ext E141).wr W144 (Or.inr z_b114)).ext E149).wr W152 (Or.inr z_b114)).ext E157).wr W160 (Or.inr z_b114)).ext E165).wr W168 (Or.inr z_b114)).ext E170).ext E176).wr W178 (Or.inl (by simp))).ext E181).wr W183 (Or.inl (by simp))).ext E191).wr W193 (Or.inl (by simp))).ext E199).wr W201 (Or.inl (by simp))).ext E204).wr W206 (Or.inl (by simp)))
  have c210 : Fld Z h206 r "com/example/opacheck/opacheck/PrecedenceTraversal" "visitedIn" "[I" (.ref b176) := (Fld.other W206 (Fld.ext E204 (Fld.other W201 (Fld.ext E199 (Fld.other W193 (Fld.ext E191 (Fld.other W183 (Fld.ext E181 F178) (Or.inr (slot_ne (Or.inr (hw _ (List.mem_of_getElem? (i := 50) rfl))) (Or.inr (hw _ (List.mem_of_getElem? (i := 52) rfl))) (by decide) (t := (.array .int)) (t' := (.array .int)) (by decide) (by decide))))) (Or.inr (slot_ne (Or.inr (hw _ (List.mem_of_getElem? (i := 50) rfl))) (Or.inr (hw _ (List.mem_of_getElem? (i := 54) rfl))) (by decide) (t := (.array .int)) (t' := (.array .int)) (by decide) (by decide))))) (Or.inr (slot_ne (Or.inr (hw _ (List.mem_of_getElem? (i := 50) rfl))) (Or.inr (hw _ (List.mem_of_getElem? (i := 56) rfl))) (by decide) (t := (.array .int)) (t' := (.array .int)) (by decide) (by decide))))) (Or.inr (slot_ne (Or.inr (hw _ (List.mem_of_getElem? (i := 50) rfl))) (Or.inr (hw _ (List.mem_of_getElem? (i := 58) rfl))) (by decide) (t := (.array .int)) (t' := (.array .int)) (by decide) (by decide))))
  have ne211 : b176 ≠ r := (Nat.ne_of_gt (Nat.lt_of_lt_of_le E0.lt (Nat.le_trans (Nat.le_trans (Nat.le_trans (Nat.le_trans (Nat.le_trans (Nat.le_trans (Nat.le_trans (Nat.le_trans (Nat.le_trans (Nat.le_trans (Nat.le_trans (Nat.le_trans (Nat.le_trans (Nat.le_trans (Nat.le_trans (Nat.le_trans (Nat.le_trans (Nat.le_trans (Nat.le_trans (Nat.le_refl _) K105.1) (Nat.le_of_eq W106.size.symm)) E109.1) E114.1) (Nat.le_of_eq W116.size.symm)) E123.1) (Nat.le_of_eq W127.size.symm)) E133.1) (Nat.le_of_eq W136.size.symm)) E141.1) (Nat.le_of_eq W144.size.symm)) E149.1) (Nat.le_of_eq W152.size.symm)) E157.1) (Nat.le_of_eq W160.size.symm)) E165.1) (Nat.le_of_eq W168.size.symm)) E170.1) (Nat.le_of_eq g176.symm))))
  have c212 : AL Z h206 b176 k176 .int [(.int (0 : Int32)), (.int (0 : Int32)), (.int (0 : Int32)), (.int (0 : Int32)), (.int (0 : Int32)), (.int (0 : Int32))] := (AL.other W206 (AL.ext E204 (AL.other W201 (AL.ext E199 (AL.other W193 (AL.ext E191 (AL.other W183 (AL.ext E181 (AL.other W178 A176 ne211)) ne211)) ne211)) ne211)) ne211)
  have c213 : Fld Z h206 r "com/example/opacheck/opacheck/PrecedenceTraversal" "positions" "[I" (.ref b181) := (Fld.other W206 (Fld.ext E204 (Fld.other W201 (Fld.ext E199 (Fld.other W193 (Fld.ext E191 F183) (Or.inr (slot_ne (Or.inr (hw _ (List.mem_of_getElem? (i := 52) rfl))) (Or.inr (hw _ (List.mem_of_getElem? (i := 54) rfl))) (by decide) (t := (.array .int)) (t' := (.array .int)) (by decide) (by decide))))) (Or.inr (slot_ne (Or.inr (hw _ (List.mem_of_getElem? (i := 52) rfl))) (Or.inr (hw _ (List.mem_of_getElem? (i := 56) rfl))) (by decide) (t := (.array .int)) (t' := (.array .int)) (by decide) (by decide))))) (Or.inr (slot_ne (Or.inr (hw _ (List.mem_of_getElem? (i := 52) rfl))) (Or.inr (hw _ (List.mem_of_getElem? (i := 58) rfl))) (by decide) (t := (.array .int)) (t' := (.array .int)) (by decide) (by decide))))
  have ne214 : b181 ≠ r := (Nat.ne_of_gt (Nat.lt_of_lt_of_le E0.lt (Nat.le_trans (Nat.le_trans (Nat.le_trans (Nat.le_trans (Nat.le_trans (Nat.le_trans (Nat.le_trans (Nat.le_trans (Nat.le_trans (Nat.le_trans (Nat.le_trans (Nat.le_trans (Nat.le_trans (Nat.le_trans (Nat.le_trans (Nat.le_trans (Nat.le_trans (Nat.le_trans (Nat.le_trans (Nat.le_trans (Nat.le_trans (Nat.le_refl _) K105.1) (Nat.le_of_eq W106.size.symm)) E109.1) E114.1) (Nat.le_of_eq W116.size.symm)) E123.1) (Nat.le_of_eq W127.size.symm)) E133.1) (Nat.le_of_eq W136.size.symm)) E141.1) (Nat.le_of_eq W144.size.symm)) E149.1) (Nat.le_of_eq W152.size.symm)) E157.1) (Nat.le_of_eq W160.size.symm)) E165.1) (Nat.le_of_eq W168.size.symm)) E170.1) E176.1) (Nat.le_of_eq W178.size.symm)) (Nat.le_of_eq g181.symm))))
  have c215 : AL Z h206 b181 k181 .int [(.int (0 : Int32)), (.int (0 : Int32)), (.int (0 : Int32)), (.int (0 : Int32)), (.int (0 : Int32)), (.int (0 : Int32))] := (AL.other W206 (AL.ext E204 (AL.other W201 (AL.ext E199 (AL.other W193 (AL.ext E191 (AL.other W183 A181 ne214)) ne214)) ne214)) ne214)
  have c216 : Fld Z h206 r "com/example/opacheck/opacheck/PrecedenceTraversal" "number" "I" (.int (0 : Int32)) := (Fld.other W206 (Fld.ext E204 (Fld.other W201 (Fld.ext E199 (Fld.other W193 (Fld.ext E191 (Fld.other W183 (Fld.ext E181 (Fld.other W178 (Fld.ext E176 (Fld.ext E170 (Fld.other W168 (Fld.ext E165 (Fld.other W160 (Fld.ext E157 (Fld.other W152 (Fld.ext E149 (Fld.other W144 (Fld.ext E141 (Fld.other W136 (Fld.ext E133 (Fld.other W127 (Fld.ext E123 (Fld.other W116 (Fld.ext E114 (Fld.ext E109 (Fld.other W106 (Fld.keep Fnum K105 nin0) (Or.inr (slot_ne (Or.inl (hw _ (List.mem_of_getElem? (i := 65) rfl))) (Or.inr (hw _ (List.mem_of_getElem? (i := 41) rfl))) (by decide) (t := .int) (t' := (.array .int)) (by decide) (by decide)))))) (Or.inr (slot_ne (Or.inl (hw _ (List.mem_of_getElem? (i := 65) rfl))) (Or.inr (hw _ (List.mem_of_getElem? (i := 47) rfl))) (by decide) (t := .int) (t' := (.array (.array .int))) (by decide) (by decide))))) (Or.inl (Ne.symm ne125)))) (Or.inl (Ne.symm ne125)))) (Or.inl (Ne.symm ne125)))) (Or.inl (Ne.symm ne125)))) (Or.inl (Ne.symm ne125)))) (Or.inl (Ne.symm ne125))))) (Or.inr (slot_ne (Or.inl (hw _ (List.mem_of_getElem? (i := 65) rfl))) (Or.inr (hw _ (List.mem_of_getElem? (i := 50) rfl))) (by decide) (t := .int) (t' := (.array .int)) (by decide) (by decide))))) (Or.inr (slot_ne (Or.inl (hw _ (List.mem_of_getElem? (i := 65) rfl))) (Or.inr (hw _ (List.mem_of_getElem? (i := 52) rfl))) (by decide) (t := .int) (t' := (.array .int)) (by decide) (by decide))))) (Or.inr (slot_ne (Or.inl (hw _ (List.mem_of_getElem? (i := 65) rfl))) (Or.inr (hw _ (List.mem_of_getElem? (i := 54) rfl))) (by decide) (t := .int) (t' := (.array .int)) (by decide) (by decide))))) (Or.inr (slot_ne (Or.inl (hw _ (List.mem_of_getElem? (i := 65) rfl))) (Or.inr (hw _ (List.mem_of_getElem? (i := 56) rfl))) (by decide) (t := .int) (t' := (.array .int)) (by decide) (by decide))))) (Or.inr (slot_ne (Or.inl (hw _ (List.mem_of_getElem? (i := 65) rfl))) (Or.inr (hw _ (List.mem_of_getElem? (i := 58) rfl))) (by decide) (t := .int) (t' := (.array .int)) (by decide) (by decide))))
  have c217 : Fld Z h206 r "com/example/opacheck/opacheck/PrecedenceTraversal" "scope" "Ljava/util/function/IntPredicate;" .null := (Fld.other W206 (Fld.ext E204 (Fld.other W201 (Fld.ext E199 (Fld.other W193 (Fld.ext E191 (Fld.other W183 (Fld.ext E181 (Fld.other W178 (Fld.ext E176 (Fld.ext E170 (Fld.other W168 (Fld.ext E165 (Fld.other W160 (Fld.ext E157 (Fld.other W152 (Fld.ext E149 (Fld.other W144 (Fld.ext E141 (Fld.other W136 (Fld.ext E133 (Fld.other W127 (Fld.ext E123 (Fld.other W116 (Fld.ext E114 (Fld.ext E109 (Fld.other W106 (Fld.keep Fsc K105 nin0) (Or.inr (slot_ne (Or.inl (hw _ (List.mem_of_getElem? (i := 67) rfl))) (Or.inr (hw _ (List.mem_of_getElem? (i := 41) rfl))) (by decide) (t := (.object "java/util/function/IntPredicate")) (t' := (.array .int)) (by decide) (by decide)))))) (Or.inr (slot_ne (Or.inl (hw _ (List.mem_of_getElem? (i := 67) rfl))) (Or.inr (hw _ (List.mem_of_getElem? (i := 47) rfl))) (by decide) (t := (.object "java/util/function/IntPredicate")) (t' := (.array (.array .int))) (by decide) (by decide))))) (Or.inl (Ne.symm ne125)))) (Or.inl (Ne.symm ne125)))) (Or.inl (Ne.symm ne125)))) (Or.inl (Ne.symm ne125)))) (Or.inl (Ne.symm ne125)))) (Or.inl (Ne.symm ne125))))) (Or.inr (slot_ne (Or.inl (hw _ (List.mem_of_getElem? (i := 67) rfl))) (Or.inr (hw _ (List.mem_of_getElem? (i := 50) rfl))) (by decide) (t := (.object "java/util/function/IntPredicate")) (t' := (.array .int)) (by decide) (by decide))))) (Or.inr (slot_ne (Or.inl (hw _ (List.mem_of_getElem? (i := 67) rfl))) (Or.inr (hw _ (List.mem_of_getElem? (i := 52) rfl))) (by decide) (t := (.object "java/util/function/IntPredicate")) (t' := (.array .int)) (by decide) (by decide))))) (Or.inr (slot_ne (Or.inl (hw _ (List.mem_of_getElem? (i := 67) rfl))) (Or.inr (hw _ (List.mem_of_getElem? (i := 54) rfl))) (by decide) (t := (.object "java/util/function/IntPredicate")) (t' := (.array .int)) (by decide) (by decide))))) (Or.inr (slot_ne (Or.inl (hw _ (List.mem_of_getElem? (i := 67) rfl))) (Or.inr (hw _ (List.mem_of_getElem? (i := 56) rfl))) (by decide) (t := (.object "java/util/function/IntPredicate")) (t' := (.array .int)) (by decide) (by decide))))) (Or.inr (slot_ne (Or.inl (hw _ (List.mem_of_getElem? (i := 67) rfl))) (Or.inr (hw _ (List.mem_of_getElem? (i := 58) rfl))) (by decide) (t := (.object "java/util/function/IntPredicate")) (t' := (.array .int)) (by decide) (by decide))))
  have ne218 : b176 ≠ b181 := Nat.ne_of_lt (Nat.lt_of_lt_of_le A176.lt (Nat.le_trans (Nat.le_trans (Nat.le_refl _) (Nat.le_of_eq W178.size.symm)) (Nat.le_of_eq g181.symm)))
  exact Go.retV C X206 rfl d3_230 (by rw [e206]; exact ⟨b176, k176, b181, k181, rfl, N206, K209, z_b176, z_b181, c210, c212, c213, c215, c216, c217, ne218⟩) (by decide) (by decide)
def Q_ct7 (Z : State) (r : Addr) (q : Addr) (v : Addr) (k : ClassId) (h0 : Heap) (rv : Option Value) (h : Heap) (L : List Loc) : Prop := ∃ vi : Addr, ∃ ki : ClassId, ∃ vp : Addr, ∃ kp : ClassId, rv = none ∧ Fr Z.heap.size L ∧ Keep h0 h [r] ∧ h0.size ≤ vi ∧ h0.size ≤ vp ∧ Fld Z h r "com/example/opacheck/opacheck/PrecedenceTraversal" "visitedIn" "[I" (.ref vi) ∧ AL Z h vi ki .int [(.int (0 : Int32)), (.int (0 : Int32)), (.int (0 : Int32)), (.int (0 : Int32)), (.int (0 : Int32)), (.int (0 : Int32)), (.int (0 : Int32))] ∧ Fld Z h r "com/example/opacheck/opacheck/PrecedenceTraversal" "positions" "[I" (.ref vp) ∧ AL Z h vp kp .int [(.int (0 : Int32)), (.int (0 : Int32)), (.int (0 : Int32)), (.int (0 : Int32)), (.int (0 : Int32)), (.int (0 : Int32)), (.int (0 : Int32))] ∧ Fld Z h r "com/example/opacheck/opacheck/PrecedenceTraversal" "number" "I" (.int (0 : Int32)) ∧ Fld Z h r "com/example/opacheck/opacheck/PrecedenceTraversal" "scope" "Ljava/util/function/IntPredicate;" .null ∧ vi ≠ vp
set_option maxRecDepth 65536 in
set_option maxHeartbeats 40000000 in
theorem rm_ct7 (l : Launch) (Z : State) (a0 : Array Value) (hw : ∀ d ∈ tables_1, d.before a0 Z = true) (r : Addr) (q : Addr) (v : Addr) (k : ClassId) (h0 : Heap) (O0 : Ext Z.heap h0) (E0 : Exa Z h0 r "com/example/opacheck/opacheck/PrecedenceTraversal") (Fmembers : Fld Z h0 r "com/example/opacheck/opacheck/PrecedenceTraversal" "members" "[I" .null) (Franges : Fld Z h0 r "com/example/opacheck/opacheck/PrecedenceTraversal" "ranges" "[[I" .null) (FvisitedIn : Fld Z h0 r "com/example/opacheck/opacheck/PrecedenceTraversal" "visitedIn" "[I" .null) (Fpositions : Fld Z h0 r "com/example/opacheck/opacheck/PrecedenceTraversal" "positions" "[I" .null) (Flinks : Fld Z h0 r "com/example/opacheck/opacheck/PrecedenceTraversal" "links" "[I" .null) (FlinkedIn : Fld Z h0 r "com/example/opacheck/opacheck/PrecedenceTraversal" "linkedIn" "[I" .null) (Fpath : Fld Z h0 r "com/example/opacheck/opacheck/PrecedenceTraversal" "path" "[I" .null) (Fnum : Fld Z h0 r "com/example/opacheck/opacheck/PrecedenceTraversal" "number" "I" (.int (0 : Int32))) (Fsc : Fld Z h0 r "com/example/opacheck/opacheck/PrecedenceTraversal" "scope" "Ljava/util/function/IntPredicate;" .null) (Gm : Fld Z h0 q "com/example/opacheck/opacheck/PrecedenceTraversal$Neighbours" "members" "[I" (.ref v)) (Am : AL Z h0 v k .int [(.int (0 : Int32)), (.int (0 : Int32)), (.int (0 : Int32)), (.int (0 : Int32)), (.int (0 : Int32)), (.int (0 : Int32)), (.int (0 : Int32)), (.int (0 : Int32)), (.int (0 : Int32)), (.int (0 : Int32)), (.int (0 : Int32)), (.int (0 : Int32)), (.int (0 : Int32)), (.int (0 : Int32)), (.int (0 : Int32)), (.int (0 : Int32))]) (Gs : Fld Z h0 q "com/example/opacheck/opacheck/PrecedenceTraversal$Neighbours" "size" "I" (.int (0 : Int32))) (Gr : Fld Z h0 q "com/example/opacheck/opacheck/PrecedenceTraversal$Neighbours" "rangesSize" "I" (.int (0 : Int32))) (Gc : Fld Z h0 q "com/example/opacheck/opacheck/PrecedenceTraversal$Neighbours" "count" "I" (.int (7 : Int32))) (hn : Z.heap.size ≤ r) (hne : r ≠ q) (hnv : r ≠ v) :
    Met1 l Z (⟨"com/example/opacheck/opacheck/PrecedenceTraversal", "<init>", "(Lcom/example/opacheck/opacheck/PrecedenceTraversal$Neighbours;)V"⟩ : MethodName) prog_45_method_2_code 7 none ({ frames := 2, cells := 17, slots := 50, locals := 33 } : Room) #[(.ref r), (.ref q)] h0 (Q_ct7 Z r q v k h0) := by
  refine Met1.of_body (Ls := #[.val (.ref r), .val (.ref q), .unset, .unset, .unset, .unset, .unset]) pf_3 (fun m => by first | (simp [entryFrame, mkF, argsToLocals, Value.category]; done) | rfl) ?_
  intro p e s m below meth c T0 C X0 e0
  have N0 : Fr Z.heap.size [] := Fr.nil _
  refine Go.aloadN (pc' := 1) C X0 d3_0 rfl rfl rfl ?_
  refine Go.initO (pc' := 4) (W := 0) C X0 (hw _ (List.mem_of_getElem? (i := 23) rfl)) (hw _ (List.mem_of_getElem? (i := 8) rfl)) (hw _ (List.mem_of_getElem? (i := 9) rfl)) e0 rfl (by decide) (Nat.le_of_eq rfl) (by decide) d3_1 rfl ?_
  intro T101 X101 e101
  refine Go.aloadN (pc' := 5) C X101 d3_4 rfl rfl rfl ?_
  refine Go.getFR (pc' := 8) C X101 (hw _ (List.mem_of_getElem? (i := 24) rfl)) e101 Gc d3_5 rfl ?_
  refine Go.istoreN (Ls' := #[.val (.ref r), .val (.ref q), .val (.int (7 : Int32)), .unset, .unset, .unset, .unset]) (pc' := 9) C X101 d3_8 rfl rfl ?_
  refine Go.aloadN (pc' := 10) C X101 d3_9 rfl rfl rfl ?_
  refine Go.aloadN (pc' := 11) C X101 d3_10 rfl rfl rfl ?_
  refine Go.getFR (pc' := 14) C X101 (hw _ (List.mem_of_getElem? (i := 25) rfl)) e101 Gm d3_11 rfl ?_
  refine Go.aloadN (pc' := 15) C X101 d3_14 rfl rfl rfl ?_
  refine Go.getFR (pc' := 18) C X101 (hw _ (List.mem_of_getElem? (i := 26) rfl)) e101 Gs d3_15 rfl ?_
  refine Go.callS (y := (⟨"java/util/Arrays", "copyOf", "([II)[I"⟩ : MethodName)) (pc' := 21) C X101 (hw _ (List.mem_of_getElem? (i := 28) rfl)) (hw _ (List.mem_of_getElem? (i := 29) rfl)) (by decide) (rm_cpy l Z a0 hw v k h0 O0 Am) (hw _ (List.mem_of_getElem? (i := 31) rfl)) (hw _ (List.mem_of_getElem? (i := 30) rfl)) e101 (argsL := [(.ref v), (.int (0 : Int32))]) (rest := [(.ref r)]) (W := 1) rfl rfl pd_1 rfl (Nat.le_of_eq rfl) rfl (by decide) (by decide) (by decide) (by decide) d3_18 rfl ?_
  intro T105 v105 L105 X105 q105
  obtain ⟨b_105, kb_105, rfl, N105q, K105, B105_0, P105_0⟩ := q105
  have N105 := Fr.app N0 N105q
  have n_b_105 : Z.heap.size ≤ b_105 := Nat.le_trans O0.1 B105_0
  have z_b_105 : h0.size ≤ b_105 := Nat.le_trans (Nat.le_refl _) B105_0
  have c107 : Fld Z T105.heap r "com/example/opacheck/opacheck/PrecedenceTraversal" "members" "[I" .null := (Fld.keep Fmembers K105 nin0)
  have c108 : Exa Z T105.heap r "com/example/opacheck/opacheck/PrecedenceTraversal" := (Exa.keep E0 K105)
  refine Go.putF (pc' := 24) (host := "") (ty := (.array .int)) C X105 (Or.inl (hw _ (List.mem_of_getElem? (i := 40) rfl))) Via.refl rfl c107 c108 (Or.inr ⟨(hw _ (List.mem_of_getElem? (i := 41) rfl)), rfl, rfl⟩) (hw _ (List.mem_of_getElem? (i := 18) rfl)) (by decide) rfl rfl d3_21 rfl ?_
  intro T106 h106 X106 e106 W106 F106
  have N106 := Fr.snoc X106 N105 hn
  refine Go.iloadN (pc' := 25) C X106 d3_24 rfl rfl ?_
  have O110 : Ext Z.heap h106 := (Ext.wr (Ext.keep O0 K105 all0) W106 hn)
  refine Go.newP (aty := .int) (cap := 7) (vs := [(.int (0 : Int32)), (.int (0 : Int32)), (.int (0 : Int32)), (.int (0 : Int32)), (.int (0 : Int32)), (.int (0 : Int32)), (.int (0 : Int32))]) (ad := "[I") (pc' := 27) C X106 (by decide) (hw _ (List.mem_of_getElem? (i := 10) rfl)) e106 (by decide) (by decide) (by decide) (by decide) (by decide) rfl d3_25 rfl ?_
  intro T109 h109 b109 k109 X109 e109 g109 E109 A109 Ea109
  have n_b109 : Z.heap.size ≤ b109 := Nat.le_trans O110.1 (Nat.le_of_eq g109.symm)
  have z_b109 : h0.size ≤ b109 := Nat.le_trans (Nat.le_trans (Nat.le_trans (Nat.le_refl _) K105.1) (Nat.le_of_eq W106.size.symm)) (Nat.le_of_eq g109.symm)
  have A109 : AL Z h109 b109 k109 .int [(.int (0 : Int32)), (.int (0 : Int32)), (.int (0 : Int32)), (.int (0 : Int32)), (.int (0 : Int32)), (.int (0 : Int32)), (.int (0 : Int32))] := A109
  refine Go.astoreN (Ls' := #[.val (.ref r), .val (.ref q), .val (.int (7 : Int32)), .val (.ref b109), .unset, .unset, .unset]) (pc' := 28) C X109 d3_27 rfl rfl rfl ?_
  refine Go.iconst (z := (0 : Int32)) (pc' := 29) C X109 d3_28 rfl rfl ?_
  refine Go.istore (Ls' := #[.val (.ref r), .val (.ref q), .val (.int (7 : Int32)), .val (.ref b109), .val (.int (0 : Int32)), .unset, .unset]) (pc' := 31) C X109 d3_29 rfl rfl ?_
  refine Go.iload (pc' := 33) C X109 d3_31 rfl rfl ?_
  refine Go.aloadN (pc' := 34) C X109 d3_33 rfl rfl rfl ?_
  have c112 : Fld Z h109 q "com/example/opacheck/opacheck/PrecedenceTraversal$Neighbours" "rangesSize" "I" (.int (0 : Int32)) := (Fld.ext E109 (Fld.other W106 (Fld.keep Gr K105 nin0) (Or.inl (Ne.symm hne))))
  refine Go.getFR (pc' := 37) C X109 (hw _ (List.mem_of_getElem? (i := 42) rfl)) e109 c112 d3_34 rfl ?_
  refine Go.icmpYes (pc' := 59) C X109 d3_37 (flt (x := (0 : Int32)) (y := (0 : Int32)) (by decide)).2.1 (by decide) (by decide) ?_
  refine Go.aloadN (pc' := 60) C X109 d3_59 rfl rfl rfl ?_
  refine Go.iloadN (pc' := 61) C X109 d3_60 rfl rfl ?_
  have O115 : Ext Z.heap h109 := (Ext.trans O110 E109)
  refine Go.newRA (ty := .int) (cap := 7) (vs := [.null, .null, .null, .null, .null, .null, .null]) (ad := "[[I") (pc' := 64) C X109 (by decide) (by decide) (hw _ (List.mem_of_getElem? (i := 44) rfl)) (hw _ (List.mem_of_getElem? (i := 45) rfl)) e109 (by decide) (by decide) (by decide) (by decide) (by decide) rfl d3_61 rfl ?_
  intro T114 h114 b114 k114 X114 e114 g114 E114 A114 Ea114 O114v
  have n_b114 : Z.heap.size ≤ b114 := Nat.le_trans O115.1 (Nat.le_of_eq g114.symm)
  have z_b114 : h0.size ≤ b114 := Nat.le_trans (Nat.le_trans (Nat.le_trans (Nat.le_trans (Nat.le_refl _) K105.1) (Nat.le_of_eq W106.size.symm)) E109.1) (Nat.le_of_eq g114.symm)
  have A114 : AL Z h114 b114 k114 (.array .int) [.null, .null, .null, .null, .null, .null, .null] := A114
  have c117 : Fld Z h114 r "com/example/opacheck/opacheck/PrecedenceTraversal" "ranges" "[[I" .null := (Fld.ext E114 (Fld.ext E109 (Fld.other W106 (Fld.keep Franges K105 nin0) (Or.inr (slot_ne (Or.inr (hw _ (List.mem_of_getElem? (i := 47) rfl))) (Or.inr (hw _ (List.mem_of_getElem? (i := 41) rfl))) (by decide) (t := (.array (.array .int))) (t' := (.array .int)) (by decide) (by decide))))))
  have c118 : Exa Z h114 r "com/example/opacheck/opacheck/PrecedenceTraversal" := (Exa.ext E114 (Exa.ext E109 (Exa.wr W106 c108)))
  refine Go.putF (pc' := 67) (host := "") (ty := (.array (.array .int))) C X114 (Or.inl (hw _ (List.mem_of_getElem? (i := 46) rfl))) Via.refl e114 c117 c118 (Or.inr ⟨(hw _ (List.mem_of_getElem? (i := 47) rfl)), rfl, rfl⟩) (hw _ (List.mem_of_getElem? (i := 18) rfl)) (by decide) rfl rfl d3_64 rfl ?_
  intro T116 h116 X116 e116 W116 F116
  have N116 := Fr.snoc X116 N106 hn
  refine Go.iconst (z := (0 : Int32)) (pc' := 68) C X116 d3_67 rfl rfl ?_
  refine Go.istore (Ls' := #[.val (.ref r), .val (.ref q), .val (.int (7 : Int32)), .val (.ref b109), .val (.int (0 : Int32)), .unset, .unset]) (pc' := 70) C X116 d3_68 rfl rfl ?_
  refine Go.iload (pc' := 72) C X116 d3_70 rfl rfl ?_
  refine Go.iloadN (pc' := 73) C X116 d3_72 rfl rfl ?_
  refine Go.icmpNo (pc' := 76) C X116 d3_73 (tlt (x := (0 : Int32)) (y := (7 : Int32)) (by decide)).2.1 rfl ?_
  refine Go.aloadN (pc' := 77) C X116 d3_76 rfl rfl rfl ?_
  refine Go.getF (pc' := 80) (host := "") C X116 (Or.inl (hw _ (List.mem_of_getElem? (i := 46) rfl))) Via.refl e116 F116 d3_77 rfl ?_
  intro T120 X120 e120
  refine Go.iload (pc' := 82) C X120 d3_80 rfl rfl ?_
  refine Go.iconst (z := (2 : Int32)) (pc' := 83) C X120 d3_82 rfl rfl ?_
  refine Go.aloadN (pc' := 84) C X120 d3_83 rfl rfl rfl ?_
  refine Go.iload (pc' := 86) C X120 d3_84 rfl rfl ?_
  have ne121 : b109 ≠ r := (Nat.ne_of_gt (Nat.lt_of_lt_of_le E0.lt (Nat.le_trans (Nat.le_trans (Nat.le_trans (Nat.le_refl _) K105.1) (Nat.le_of_eq W106.size.symm)) (Nat.le_of_eq g109.symm))))
  have c122 : AL Z h116 b109 k109 .int [(.int (0 : Int32)), (.int (0 : Int32)), (.int (0 : Int32)), (.int (0 : Int32)), (.int (0 : Int32)), (.int (0 : Int32)), (.int (0 : Int32))] := (AL.other W116 (AL.ext E114 A109) ne121)
  refine Go.ldI (i := 0) (v := (.int (0 : Int32))) (pc' := 87) C X120 e120 c122 (by decide) (by decide) rfl d3_86 rfl ?_
  refine Go.imul (pc' := 88) C X120 d3_87 rfl ?_
  rw [show ((2 : Int32) * (0 : Int32)) = (0 : Int32) from by decide]
  have O124 : Ext Z.heap h116 := (Ext.wr (Ext.trans O115 E114) W116 hn)
  refine Go.newP (aty := .int) (cap := 0) (vs := []) (ad := "[I") (pc' := 90) C X120 (by decide) (hw _ (List.mem_of_getElem? (i := 10) rfl)) e120 (by decide) (by decide) (by decide) (by decide) (by decide) rfl d3_88 rfl ?_
  intro T123 h123 b123 k123 X123 e123 g123 E123 A123 Ea123
  have n_b123 : Z.heap.size ≤ b123 := Nat.le_trans O124.1 (Nat.le_of_eq g123.symm)
  have z_b123 : h0.size ≤ b123 := Nat.le_trans (Nat.le_trans (Nat.le_trans (Nat.le_trans (Nat.le_trans (Nat.le_trans (Nat.le_refl _) K105.1) (Nat.le_of_eq W106.size.symm)) E109.1) E114.1) (Nat.le_of_eq W116.size.symm)) (Nat.le_of_eq g123.symm)
  have A123 : AL Z h123 b123 k123 .int [] := A123
  have ne125 : b114 ≠ r := (Nat.ne_of_gt (Nat.lt_of_lt_of_le E0.lt (Nat.le_trans (Nat.le_trans (Nat.le_trans (Nat.le_trans (Nat.le_refl _) K105.1) (Nat.le_of_eq W106.size.symm)) E109.1) (Nat.le_of_eq g114.symm))))
  have c126 : AL Z h123 b114 k114 (.array .int) [.null, .null, .null, .null, .null, .null, .null] := (AL.ext E123 (AL.other W116 A114 ne125))
  refine Go.stR (i := 0) (vs' := [(.ref b123), .null, .null, .null, .null, .null, .null]) (pc' := 91) C X123 e123 c126 (by decide) (by decide) (by simp) rfl (AL.stoA c126 O114v (Ins.self Ea123)) rfl d3_90 rfl ?_
  intro T127 h127 X127 e127 W127 A127
  have N127 := Fr.snoc X127 N116 n_b114
  refine Go.iinc (Ls' := #[.val (.ref r), .val (.ref q), .val (.int (7 : Int32)), .val (.ref b109), .val (.int ((0 : Int32) + (1 : Int32))), .unset, .unset]) (z := (1 : Int32)) (pc' := 94) C X127 d3_91 rfl rfl rfl rfl ?_
  rw [show ((0 : Int32) + (1 : Int32)) = (1 : Int32) from by decide]
  refine Go.goto (pc' := 70) C X127 d3_94 (by decide) (by decide) ?_
  refine Go.iload (pc' := 72) C X127 d3_70 rfl rfl ?_
  refine Go.iloadN (pc' := 73) C X127 d3_72 rfl rfl ?_
  refine Go.icmpNo (pc' := 76) C X127 d3_73 (tlt (x := (1 : Int32)) (y := (7 : Int32)) (by decide)).2.1 rfl ?_
  refine Go.aloadN (pc' := 77) C X127 d3_76 rfl rfl rfl ?_
  have c130 : Fld Z h127 r "com/example/opacheck/opacheck/PrecedenceTraversal" "ranges" "[[I" (.ref b114) := (Fld.other W127 (Fld.ext E123 F116) (Or.inl (Ne.symm ne125)))
  refine Go.getF (pc' := 80) (host := "") C X127 (Or.inl (hw _ (List.mem_of_getElem? (i := 46) rfl))) Via.refl e127 c130 d3_77 rfl ?_
  intro T129 X129 e129
  refine Go.iload (pc' := 82) C X129 d3_80 rfl rfl ?_
  refine Go.iconst (z := (2 : Int32)) (pc' := 83) C X129 d3_82 rfl rfl ?_
  refine Go.aloadN (pc' := 84) C X129 d3_83 rfl rfl rfl ?_
  refine Go.iload (pc' := 86) C X129 d3_84 rfl rfl ?_
  have ne131 : b109 ≠ b114 := Nat.ne_of_lt (Nat.lt_of_lt_of_le A109.lt (Nat.le_trans (Nat.le_refl _) (Nat.le_of_eq g114.symm)))
  have c132 : AL Z h127 b109 k109 .int [(.int (0 : Int32)), (.int (0 : Int32)), (.int (0 : Int32)), (.int (0 : Int32)), (.int (0 : Int32)), (.int (0 : Int32)), (.int (0 : Int32))] := (AL.other W127 (AL.ext E123 c122) ne131)
  refine Go.ldI (i := 1) (v := (.int (0 : Int32))) (pc' := 87) C X129 e129 c132 (by decide) (by decide) rfl d3_86 rfl ?_
  refine Go.imul (pc' := 88) C X129 d3_87 rfl ?_
  rw [show ((2 : Int32) * (0 : Int32)) = (0 : Int32) from by decide]
  have O134 : Ext Z.heap h127 := (Ext.wr (Ext.trans O124 E123) W127 n_b114)
  refine Go.newP (aty := .int) (cap := 0) (vs := []) (ad := "[I") (pc' := 90) C X129 (by decide) (hw _ (List.mem_of_getElem? (i := 10) rfl)) e129 (by decide) (by decide) (by decide) (by decide) (by decide) rfl d3_88 rfl ?_
  intro T133 h133 b133 k133 X133 e133 g133 E133 A133 Ea133
  have n_b133 : Z.heap.size ≤ b133 := Nat.le_trans O134.1 (Nat.le_of_eq g133.symm)
  have z_b133 : h0.size ≤ b133 := Nat.le_trans (Nat.le_trans (Nat.le_trans (Nat.le_trans (Nat.le_trans (Nat.le_trans (Nat.le_trans (Nat.le_trans (Nat.le_refl _) K105.1) (Nat.le_of_eq W106.size.symm)) E109.1) E114.1) (Nat.le_of_eq W116.size.symm)) E123.1) (Nat.le_of_eq W127.size.symm)) (Nat.le_of_eq g133.symm)
  have A133 : AL Z h133 b133 k133 .int [] := A133
  have c135 : AL Z h133 b114 k114 (.array .int) [(.ref b123), .null, .null, .null, .null, .null, .null] := (AL.ext E133 A127)
  refine Go.stR (i := 1) (vs' := [(.ref b123), (.ref b133), .null, .null, .null, .null, .null]) (pc' := 91) C X133 e133 c135 (by decide) (by decide) (by simp) rfl (AL.stoA c135 O114v (Ins.self Ea133)) rfl d3_90 rfl ?_
  intro T136 h136 X136 e136 W136 A136
  have N136 := Fr.snoc X136 N127 n_b114
  refine Go.iinc (Ls' := #[.val (.ref r), .val (.ref q), .val (.int (7 : Int32)), .val (.ref b109), .val (.int ((1 : Int32) + (1 : Int32))), .unset, .unset]) (z := (1 : Int32)) (pc' := 94) C X136 d3_91 rfl rfl rfl rfl ?_
  rw [show ((1 : Int32) + (1 : Int32)) = (2 : Int32) from by decide]
  refine Go.goto (pc' := 70) C X136 d3_94 (by decide) (by decide) ?_
  refine Go.iload (pc' := 72) C X136 d3_70 rfl rfl ?_
  refine Go.iloadN (pc' := 73) C X136 d3_72 rfl rfl ?_
  refine Go.icmpNo (pc' := 76) C X136 d3_73 (tlt (x := (2 : Int32)) (y := (7 : Int32)) (by decide)).2.1 rfl ?_
  refine Go.aloadN (pc' := 77) C X136 d3_76 rfl rfl rfl ?_
  have c139 : Fld Z h136 r "com/example/opacheck/opacheck/PrecedenceTraversal" "ranges" "[[I" (.ref b114) := (Fld.other W136 (Fld.ext E133 c130) (Or.inl (Ne.symm ne125)))
  refine Go.getF (pc' := 80) (host := "") C X136 (Or.inl (hw _ (List.mem_of_getElem? (i := 46) rfl))) Via.refl e136 c139 d3_77 rfl ?_
  intro T138 X138 e138
  refine Go.iload (pc' := 82) C X138 d3_80 rfl rfl ?_
  refine Go.iconst (z := (2 : Int32)) (pc' := 83) C X138 d3_82 rfl rfl ?_
  refine Go.aloadN (pc' := 84) C X138 d3_83 rfl rfl rfl ?_
  refine Go.iload (pc' := 86) C X138 d3_84 rfl rfl ?_
  have c140 : AL Z h136 b109 k109 .int [(.int (0 : Int32)), (.int (0 : Int32)), (.int (0 : Int32)), (.int (0 : Int32)), (.int (0 : Int32)), (.int (0 : Int32)), (.int (0 : Int32))] := (AL.other W136 (AL.ext E133 c132) ne131)
  refine Go.ldI (i := 2) (v := (.int (0 : Int32))) (pc' := 87) C X138 e138 c140 (by decide) (by decide) rfl d3_86 rfl ?_
  refine Go.imul (pc' := 88) C X138 d3_87 rfl ?_
  rw [show ((2 : Int32) * (0 : Int32)) = (0 : Int32) from by decide]
  have O142 : Ext Z.heap h136 := (Ext.wr (Ext.trans O134 E133) W136 n_b114)
  refine Go.newP (aty := .int) (cap := 0) (vs := []) (ad := "[I") (pc' := 90) C X138 (by decide) (hw _ (List.mem_of_getElem? (i := 10) rfl)) e138 (by decide) (by decide) (by decide) (by decide) (by decide) rfl d3_88 rfl ?_
  intro T141 h141 b141 k141 X141 e141 g141 E141 A141 Ea141
  have n_b141 : Z.heap.size ≤ b141 := Nat.le_trans O142.1 (Nat.le_of_eq g141.symm)
  have z_b141 : h0.size ≤ b141 := Nat.le_trans (Nat.le_trans (Nat.le_trans (Nat.le_trans (Nat.le_trans (Nat.le_trans (Nat.le_trans (Nat.le_trans (Nat.le_trans (Nat.le_trans (Nat.le_refl _) K105.1) (Nat.le_of_eq W106.size.symm)) E109.1) E114.1) (Nat.le_of_eq W116.size.symm)) E123.1) (Nat.le_of_eq W127.size.symm)) E133.1) (Nat.le_of_eq W136.size.symm)) (Nat.le_of_eq g141.symm)
  have A141 : AL Z h141 b141 k141 .int [] := A141
  have c143 : AL Z h141 b114 k114 (.array .int) [(.ref b123), (.ref b133), .null, .null, .null, .null, .null] := (AL.ext E141 A136)
  refine Go.stR (i := 2) (vs' := [(.ref b123), (.ref b133), (.ref b141), .null, .null, .null, .null]) (pc' := 91) C X141 e141 c143 (by decide) (by decide) (by simp) rfl (AL.stoA c143 O114v (Ins.self Ea141)) rfl d3_90 rfl ?_
  intro T144 h144 X144 e144 W144 A144
  have N144 := Fr.snoc X144 N136 n_b114
  refine Go.iinc (Ls' := #[.val (.ref r), .val (.ref q), .val (.int (7 : Int32)), .val (.ref b109), .val (.int ((2 : Int32) + (1 : Int32))), .unset, .unset]) (z := (1 : Int32)) (pc' := 94) C X144 d3_91 rfl rfl rfl rfl ?_
  rw [show ((2 : Int32) + (1 : Int32)) = (3 : Int32) from by decide]
  refine Go.goto (pc' := 70) C X144 d3_94 (by decide) (by decide) ?_
  refine Go.iload (pc' := 72) C X144 d3_70 rfl rfl ?_
  refine Go.iloadN (pc' := 73) C X144 d3_72 rfl rfl ?_
  refine Go.icmpNo (pc' := 76) C X144 d3_73 (tlt (x := (3 : Int32)) (y := (7 : Int32)) (by decide)).2.1 rfl ?_
  refine Go.aloadN (pc' := 77) C X144 d3_76 rfl rfl rfl ?_
  have c147 : Fld Z h144 r "com/example/opacheck/opacheck/PrecedenceTraversal" "ranges" "[[I" (.ref b114) := (Fld.other W144 (Fld.ext E141 c139) (Or.inl (Ne.symm ne125)))
  refine Go.getF (pc' := 80) (host := "") C X144 (Or.inl (hw _ (List.mem_of_getElem? (i := 46) rfl))) Via.refl e144 c147 d3_77 rfl ?_
  intro T146 X146 e146
  refine Go.iload (pc' := 82) C X146 d3_80 rfl rfl ?_
  refine Go.iconst (z := (2 : Int32)) (pc' := 83) C X146 d3_82 rfl rfl ?_
  refine Go.aloadN (pc' := 84) C X146 d3_83 rfl rfl rfl ?_
  refine Go.iload (pc' := 86) C X146 d3_84 rfl rfl ?_
  have c148 : AL Z h144 b109 k109 .int [(.int (0 : Int32)), (.int (0 : Int32)), (.int (0 : Int32)), (.int (0 : Int32)), (.int (0 : Int32)), (.int (0 : Int32)), (.int (0 : Int32))] := (AL.other W144 (AL.ext E141 c140) ne131)
  refine Go.ldI (i := 3) (v := (.int (0 : Int32))) (pc' := 87) C X146 e146 c148 (by decide) (by decide) rfl d3_86 rfl ?_
  refine Go.imul (pc' := 88) C X146 d3_87 rfl ?_
  rw [show ((2 : Int32) * (0 : Int32)) = (0 : Int32) from by decide]
  have O150 : Ext Z.heap h144 := (Ext.wr (Ext.trans O142 E141) W144 n_b114)
  refine Go.newP (aty := .int) (cap := 0) (vs := []) (ad := "[I") (pc' := 90) C X146 (by decide) (hw _ (List.mem_of_getElem? (i := 10) rfl)) e146 (by decide) (by decide) (by decide) (by decide) (by decide) rfl d3_88 rfl ?_
  intro T149 h149 b149 k149 X149 e149 g149 E149 A149 Ea149
  have n_b149 : Z.heap.size ≤ b149 := Nat.le_trans O150.1 (Nat.le_of_eq g149.symm)
  have z_b149 : h0.size ≤ b149 := Nat.le_trans (Nat.le_trans (Nat.le_trans (Nat.le_trans (Nat.le_trans (Nat.le_trans (Nat.le_trans (Nat.le_trans (Nat.le_trans (Nat.le_trans (Nat.le_trans (Nat.le_trans (Nat.le_refl _) K105.1) (Nat.le_of_eq W106.size.symm)) E109.1) E114.1) (Nat.le_of_eq W116.size.symm)) E123.1) (Nat.le_of_eq W127.size.symm)) E133.1) (Nat.le_of_eq W136.size.symm)) E141.1) (Nat.le_of_eq W144.size.symm)) (Nat.le_of_eq g149.symm)
  have A149 : AL Z h149 b149 k149 .int [] := A149
  have c151 : AL Z h149 b114 k114 (.array .int) [(.ref b123), (.ref b133), (.ref b141), .null, .null, .null, .null] := (AL.ext E149 A144)
  refine Go.stR (i := 3) (vs' := [(.ref b123), (.ref b133), (.ref b141), (.ref b149), .null, .null, .null]) (pc' := 91) C X149 e149 c151 (by decide) (by decide) (by simp) rfl (AL.stoA c151 O114v (Ins.self Ea149)) rfl d3_90 rfl ?_
  intro T152 h152 X152 e152 W152 A152
  have N152 := Fr.snoc X152 N144 n_b114
  refine Go.iinc (Ls' := #[.val (.ref r), .val (.ref q), .val (.int (7 : Int32)), .val (.ref b109), .val (.int ((3 : Int32) + (1 : Int32))), .unset, .unset]) (z := (1 : Int32)) (pc' := 94) C X152 d3_91 rfl rfl rfl rfl ?_
  rw [show ((3 : Int32) + (1 : Int32)) = (4 : Int32) from by decide]
  refine Go.goto (pc' := 70) C X152 d3_94 (by decide) (by decide) ?_
  refine Go.iload (pc' := 72) C X152 d3_70 rfl rfl ?_
  refine Go.iloadN (pc' := 73) C X152 d3_72 rfl rfl ?_
  refine Go.icmpNo (pc' := 76) C X152 d3_73 (tlt (x := (4 : Int32)) (y := (7 : Int32)) (by decide)).2.1 rfl ?_
  refine Go.aloadN (pc' := 77) C X152 d3_76 rfl rfl rfl ?_
  have c155 : Fld Z h152 r "com/example/opacheck/opacheck/PrecedenceTraversal" "ranges" "[[I" (.ref b114) := (Fld.other W152 (Fld.ext E149 c147) (Or.inl (Ne.symm ne125)))
  refine Go.getF (pc' := 80) (host := "") C X152 (Or.inl (hw _ (List.mem_of_getElem? (i := 46) rfl))) Via.refl e152 c155 d3_77 rfl ?_
  intro T154 X154 e154
  refine Go.iload (pc' := 82) C X154 d3_80 rfl rfl ?_
  refine Go.iconst (z := (2 : Int32)) (pc' := 83) C X154 d3_82 rfl rfl ?_
  refine Go.aloadN (pc' := 84) C X154 d3_83 rfl rfl rfl ?_
  refine Go.iload (pc' := 86) C X154 d3_84 rfl rfl ?_
  have c156 : AL Z h152 b109 k109 .int [(.int (0 : Int32)), (.int (0 : Int32)), (.int (0 : Int32)), (.int (0 : Int32)), (.int (0 : Int32)), (.int (0 : Int32)), (.int (0 : Int32))] := (AL.other W152 (AL.ext E149 c148) ne131)
  refine Go.ldI (i := 4) (v := (.int (0 : Int32))) (pc' := 87) C X154 e154 c156 (by decide) (by decide) rfl d3_86 rfl ?_
  refine Go.imul (pc' := 88) C X154 d3_87 rfl ?_
  rw [show ((2 : Int32) * (0 : Int32)) = (0 : Int32) from by decide]
  have O158 : Ext Z.heap h152 := (Ext.wr (Ext.trans O150 E149) W152 n_b114)
  refine Go.newP (aty := .int) (cap := 0) (vs := []) (ad := "[I") (pc' := 90) C X154 (by decide) (hw _ (List.mem_of_getElem? (i := 10) rfl)) e154 (by decide) (by decide) (by decide) (by decide) (by decide) rfl d3_88 rfl ?_
  intro T157 h157 b157 k157 X157 e157 g157 E157 A157 Ea157
  have n_b157 : Z.heap.size ≤ b157 := Nat.le_trans O158.1 (Nat.le_of_eq g157.symm)
  have z_b157 : h0.size ≤ b157 := Nat.le_trans (Nat.le_trans (Nat.le_trans (Nat.le_trans (Nat.le_trans (Nat.le_trans (Nat.le_trans (Nat.le_trans (Nat.le_trans (Nat.le_trans (Nat.le_trans (Nat.le_trans (Nat.le_trans (Nat.le_trans (Nat.le_refl _) K105.1) (Nat.le_of_eq W106.size.symm)) E109.1) E114.1) (Nat.le_of_eq W116.size.symm)) E123.1) (Nat.le_of_eq W127.size.symm)) E133.1) (Nat.le_of_eq W136.size.symm)) E141.1) (Nat.le_of_eq W144.size.symm)) E149.1) (Nat.le_of_eq W152.size.symm)) (Nat.le_of_eq g157.symm)
  have A157 : AL Z h157 b157 k157 .int [] := A157
  have c159 : AL Z h157 b114 k114 (.array .int) [(.ref b123), (.ref b133), (.ref b141), (.ref b149), .null, .null, .null] := (AL.ext E157 A152)
  refine Go.stR (i := 4) (vs' := [(.ref b123), (.ref b133), (.ref b141), (.ref b149), (.ref b157), .null, .null]) (pc' := 91) C X157 e157 c159 (by decide) (by decide) (by simp) rfl (AL.stoA c159 O114v (Ins.self Ea157)) rfl d3_90 rfl ?_
  intro T160 h160 X160 e160 W160 A160
  have N160 := Fr.snoc X160 N152 n_b114
  refine Go.iinc (Ls' := #[.val (.ref r), .val (.ref q), .val (.int (7 : Int32)), .val (.ref b109), .val (.int ((4 : Int32) + (1 : Int32))), .unset, .unset]) (z := (1 : Int32)) (pc' := 94) C X160 d3_91 rfl rfl rfl rfl ?_
  rw [show ((4 : Int32) + (1 : Int32)) = (5 : Int32) from by decide]
  refine Go.goto (pc' := 70) C X160 d3_94 (by decide) (by decide) ?_
  refine Go.iload (pc' := 72) C X160 d3_70 rfl rfl ?_
  refine Go.iloadN (pc' := 73) C X160 d3_72 rfl rfl ?_
  refine Go.icmpNo (pc' := 76) C X160 d3_73 (tlt (x := (5 : Int32)) (y := (7 : Int32)) (by decide)).2.1 rfl ?_
  refine Go.aloadN (pc' := 77) C X160 d3_76 rfl rfl rfl ?_
  have c163 : Fld Z h160 r "com/example/opacheck/opacheck/PrecedenceTraversal" "ranges" "[[I" (.ref b114) := (Fld.other W160 (Fld.ext E157 c155) (Or.inl (Ne.symm ne125)))
  refine Go.getF (pc' := 80) (host := "") C X160 (Or.inl (hw _ (List.mem_of_getElem? (i := 46) rfl))) Via.refl e160 c163 d3_77 rfl ?_
  intro T162 X162 e162
  refine Go.iload (pc' := 82) C X162 d3_80 rfl rfl ?_
  refine Go.iconst (z := (2 : Int32)) (pc' := 83) C X162 d3_82 rfl rfl ?_
  refine Go.aloadN (pc' := 84) C X162 d3_83 rfl rfl rfl ?_
  refine Go.iload (pc' := 86) C X162 d3_84 rfl rfl ?_
  have c164 : AL Z h160 b109 k109 .int [(.int (0 : Int32)), (.int (0 : Int32)), (.int (0 : Int32)), (.int (0 : Int32)), (.int (0 : Int32)), (.int (0 : Int32)), (.int (0 : Int32))] := (AL.other W160 (AL.ext E157 c156) ne131)
  refine Go.ldI (i := 5) (v := (.int (0 : Int32))) (pc' := 87) C X162 e162 c164 (by decide) (by decide) rfl d3_86 rfl ?_
  refine Go.imul (pc' := 88) C X162 d3_87 rfl ?_
  rw [show ((2 : Int32) * (0 : Int32)) = (0 : Int32) from by decide]
  have O166 : Ext Z.heap h160 := (Ext.wr (Ext.trans O158 E157) W160 n_b114)
  refine Go.newP (aty := .int) (cap := 0) (vs := []) (ad := "[I") (pc' := 90) C X162 (by decide) (hw _ (List.mem_of_getElem? (i := 10) rfl)) e162 (by decide) (by decide) (by decide) (by decide) (by decide) rfl d3_88 rfl ?_
  intro T165 h165 b165 k165 X165 e165 g165 E165 A165 Ea165
  have n_b165 : Z.heap.size ≤ b165 := Nat.le_trans O166.1 (Nat.le_of_eq g165.symm)
  have z_b165 : h0.size ≤ b165 := Nat.le_trans (Nat.le_trans (Nat.le_trans (Nat.le_trans (Nat.le_trans (Nat.le_trans (Nat.le_trans (Nat.le_trans (Nat.le_trans (Nat.le_trans (Nat.le_trans (Nat.le_trans (Nat.le_trans (Nat.le_trans (Nat.le_trans (Nat.le_trans (Nat.le_refl _) K105.1) (Nat.le_of_eq W106.size.symm)) E109.1) E114.1) (Nat.le_of_eq W116.size.symm)) E123.1) (Nat.le_of_eq W127.size.symm)) E133.1) (Nat.le_of_eq W136.size.symm)) E141.1) (Nat.le_of_eq W144.size.symm)) E149.1) (Nat.le_of_eq W152.size.symm)) E157.1) (Nat.le_of_eq W160.size.symm)) (Nat.le_of_eq g165.symm)
  have A165 : AL Z h165 b165 k165 .int [] := A165
  have c167 : AL Z h165 b114 k114 (.array .int) [(.ref b123), (.ref b133), (.ref b141), (.ref b149), (.ref b157), .null, .null] := (AL.ext E165 A160)
  refine Go.stR (i := 5) (vs' := [(.ref b123), (.ref b133), (.ref b141), (.ref b149), (.ref b157), (.ref b165), .null]) (pc' := 91) C X165 e165 c167 (by decide) (by decide) (by simp) rfl (AL.stoA c167 O114v (Ins.self Ea165)) rfl d3_90 rfl ?_
  intro T168 h168 X168 e168 W168 A168
  have N168 := Fr.snoc X168 N160 n_b114
  refine Go.iinc (Ls' := #[.val (.ref r), .val (.ref q), .val (.int (7 : Int32)), .val (.ref b109), .val (.int ((5 : Int32) + (1 : Int32))), .unset, .unset]) (z := (1 : Int32)) (pc' := 94) C X168 d3_91 rfl rfl rfl rfl ?_
  rw [show ((5 : Int32) + (1 : Int32)) = (6 : Int32) from by decide]
  refine Go.goto (pc' := 70) C X168 d3_94 (by decide) (by decide) ?_
  refine Go.iload (pc' := 72) C X168 d3_70 rfl rfl ?_
  refine Go.iloadN (pc' := 73) C X168 d3_72 rfl rfl ?_
  refine Go.icmpNo (pc' := 76) C X168 d3_73 (tlt (x := (6 : Int32)) (y := (7 : Int32)) (by decide)).2.1 rfl ?_
  refine Go.aloadN (pc' := 77) C X168 d3_76 rfl rfl rfl ?_
  have c171 : Fld Z h168 r "com/example/opacheck/opacheck/PrecedenceTraversal" "ranges" "[[I" (.ref b114) := (Fld.other W168 (Fld.ext E165 c163) (Or.inl (Ne.symm ne125)))
  refine Go.getF (pc' := 80) (host := "") C X168 (Or.inl (hw _ (List.mem_of_getElem? (i := 46) rfl))) Via.refl e168 c171 d3_77 rfl ?_
  intro T170 X170 e170
  refine Go.iload (pc' := 82) C X170 d3_80 rfl rfl ?_
  refine Go.iconst (z := (2 : Int32)) (pc' := 83) C X170 d3_82 rfl rfl ?_
  refine Go.aloadN (pc' := 84) C X170 d3_83 rfl rfl rfl ?_
  refine Go.iload (pc' := 86) C X170 d3_84 rfl rfl ?_
  have c172 : AL Z h168 b109 k109 .int [(.int (0 : Int32)), (.int (0 : Int32)), (.int (0 : Int32)), (.int (0 : Int32)), (.int (0 : Int32)), (.int (0 : Int32)), (.int (0 : Int32))] := (AL.other W168 (AL.ext E165 c164) ne131)
  refine Go.ldI (i := 6) (v := (.int (0 : Int32))) (pc' := 87) C X170 e170 c172 (by decide) (by decide) rfl d3_86 rfl ?_
  refine Go.imul (pc' := 88) C X170 d3_87 rfl ?_
  rw [show ((2 : Int32) * (0 : Int32)) = (0 : Int32) from by decide]
  have O174 : Ext Z.heap h168 := (Ext.wr (Ext.trans O166 E165) W168 n_b114)
  refine Go.newP (aty := .int) (cap := 0) (vs := []) (ad := "[I") (pc' := 90) C X170 (by decide) (hw _ (List.mem_of_getElem? (i := 10) rfl)) e170 (by decide) (by decide) (by decide) (by decide) (by decide) rfl d3_88 rfl ?_
  intro T173 h173 b173 k173 X173 e173 g173 E173 A173 Ea173
  have n_b173 : Z.heap.size ≤ b173 := Nat.le_trans O174.1 (Nat.le_of_eq g173.symm)
  have z_b173 : h0.size ≤ b173 := Nat.le_trans (Nat.le_trans (Nat.le_trans (Nat.le_trans (Nat.le_trans (Nat.le_trans (Nat.le_trans (Nat.le_trans (Nat.le_trans (Nat.le_trans (Nat.le_trans (Nat.le_trans (Nat.le_trans (Nat.le_trans (Nat.le_trans (Nat.le_trans (Nat.le_trans (Nat.le_trans (Nat.le_refl _) K105.1) (Nat.le_of_eq W106.size.symm)) E109.1) E114.1) (Nat.le_of_eq W116.size.symm)) E123.1) (Nat.le_of_eq W127.size.symm)) E133.1) (Nat.le_of_eq W136.size.symm)) E141.1) (Nat.le_of_eq W144.size.symm)) E149.1) (Nat.le_of_eq W152.size.symm)) E157.1) (Nat.le_of_eq W160.size.symm)) E165.1) (Nat.le_of_eq W168.size.symm)) (Nat.le_of_eq g173.symm)
  have A173 : AL Z h173 b173 k173 .int [] := A173
  have c175 : AL Z h173 b114 k114 (.array .int) [(.ref b123), (.ref b133), (.ref b141), (.ref b149), (.ref b157), (.ref b165), .null] := (AL.ext E173 A168)
  refine Go.stR (i := 6) (vs' := [(.ref b123), (.ref b133), (.ref b141), (.ref b149), (.ref b157), (.ref b165), (.ref b173)]) (pc' := 91) C X173 e173 c175 (by decide) (by decide) (by simp) rfl (AL.stoA c175 O114v (Ins.self Ea173)) rfl d3_90 rfl ?_
  intro T176 h176 X176 e176 W176 A176
  have N176 := Fr.snoc X176 N168 n_b114
  refine Go.iinc (Ls' := #[.val (.ref r), .val (.ref q), .val (.int (7 : Int32)), .val (.ref b109), .val (.int ((6 : Int32) + (1 : Int32))), .unset, .unset]) (z := (1 : Int32)) (pc' := 94) C X176 d3_91 rfl rfl rfl rfl ?_
  rw [show ((6 : Int32) + (1 : Int32)) = (7 : Int32) from by decide]
  refine Go.goto (pc' := 70) C X176 d3_94 (by decide) (by decide) ?_
  refine Go.iload (pc' := 72) C X176 d3_70 rfl rfl ?_
  refine Go.iloadN (pc' := 73) C X176 d3_72 rfl rfl ?_
  refine Go.icmpYes (pc' := 97) C X176 d3_73 (flt (x := (7 : Int32)) (y := (7 : Int32)) (by decide)).2.1 (by decide) (by decide) ?_
  refine Go.iloadN (pc' := 98) C X176 d3_97 rfl rfl ?_
  have O179 : Ext Z.heap h176 := (Ext.wr (Ext.trans O174 E173) W176 n_b114)
  refine Go.newP (aty := .int) (cap := 7) (vs := [(.int (0 : Int32)), (.int (0 : Int32)), (.int (0 : Int32)), (.int (0 : Int32)), (.int (0 : Int32)), (.int (0 : Int32)), (.int (0 : Int32))]) (ad := "[I") (pc' := 100) C X176 (by decide) (hw _ (List.mem_of_getElem? (i := 10) rfl)) e176 (by decide) (by decide) (by decide) (by decide) (by decide) rfl d3_98 rfl ?_
  intro T178 h178 b178 k178 X178 e178 g178 E178 A178 Ea178
  have n_b178 : Z.heap.size ≤ b178 := Nat.le_trans O179.1 (Nat.le_of_eq g178.symm)
  have z_b178 : h0.size ≤ b178 := Nat.le_trans (Nat.le_trans (Nat.le_trans (Nat.le_trans (Nat.le_trans (Nat.le_trans (Nat.le_trans (Nat.le_trans (Nat.le_trans (Nat.le_trans (Nat.le_trans (Nat.le_trans (Nat.le_trans (Nat.le_trans (Nat.le_trans (Nat.le_trans (Nat.le_trans (Nat.le_trans (Nat.le_trans (Nat.le_trans (Nat.le_refl _) K105.1) (Nat.le_of_eq W106.size.symm)) E109.1) E114.1) (Nat.le_of_eq W116.size.symm)) E123.1) (Nat.le_of_eq W127.size.symm)) E133.1) (Nat.le_of_eq W136.size.symm)) E141.1) (Nat.le_of_eq W144.size.symm)) E149.1) (Nat.le_of_eq W152.size.symm)) E157.1) (Nat.le_of_eq W160.size.symm)) E165.1) (Nat.le_of_eq W168.size.symm)) E173.1) (Nat.le_of_eq W176.size.symm)) (Nat.le_of_eq g178.symm)
  have A178 : AL Z h178 b178 k178 .int [(.int (0 : Int32)), (.int (0 : Int32)), (.int (0 : Int32)), (.int (0 : Int32)), (.int (0 : Int32)), (.int (0 : Int32)), (.int (0 : Int32))] := A178
  refine Go.astore (Ls' := #[.val (.ref r), .val (.ref q), .val (.int (7 : Int32)), .val (.ref b109), .val (.ref b178), .unset, .unset]) (pc' := 102) C X178 d3_100 rfl rfl rfl ?_
  refine Go.iconst (z := (0 : Int32)) (pc' := 103) C X178 d3_102 rfl rfl ?_
  refine Go.istore (Ls' := #[.val (.ref r), .val (.ref q), .val (.int (7 : Int32)), .val (.ref b109), .val (.ref b178), .val (.int (0 : Int32)), .unset]) (pc' := 105) C X178 d3_103 rfl rfl ?_
  refine Go.iload (pc' := 107) C X178 d3_105 rfl rfl ?_
  refine Go.aloadN (pc' := 108) C X178 d3_107 rfl rfl rfl ?_
  have ne181 : q ≠ b114 := Nat.ne_of_lt (Nat.lt_of_lt_of_le Gm.lt (Nat.le_trans (Nat.le_trans (Nat.le_trans (Nat.le_trans (Nat.le_refl _) K105.1) (Nat.le_of_eq W106.size.symm)) E109.1) (Nat.le_of_eq g114.symm)))
  have c182 : Fld Z h178 q "com/example/opacheck/opacheck/PrecedenceTraversal$Neighbours" "rangesSize" "I" (.int (0 : Int32)) := (Fld.ext E178 (Fld.other W176 (Fld.ext E173 (Fld.other W168 (Fld.ext E165 (Fld.other W160 (Fld.ext E157 (Fld.other W152 (Fld.ext E149 (Fld.other W144 (Fld.ext E141 (Fld.other W136 (Fld.ext E133 (Fld.other W127 (Fld.ext E123 (Fld.other W116 (Fld.ext E114 c112) (Or.inl (Ne.symm hne)))) (Or.inl ne181))) (Or.inl ne181))) (Or.inl ne181))) (Or.inl ne181))) (Or.inl ne181))) (Or.inl ne181))) (Or.inl ne181)))
  refine Go.getFR (pc' := 111) C X178 (hw _ (List.mem_of_getElem? (i := 42) rfl)) e178 c182 d3_108 rfl ?_
  refine Go.icmpYes (pc' := 183) C X178 d3_111 (flt (x := (0 : Int32)) (y := (0 : Int32)) (by decide)).2.1 (by decide) (by decide) ?_
  refine Go.aloadN (pc' := 184) C X178 d3_183 rfl rfl rfl ?_
  refine Go.iloadN (pc' := 185) C X178 d3_184 rfl rfl ?_
  have O185 : Ext Z.heap h178 := (Ext.trans O179 E178)
  refine Go.newP (aty := .int) (cap := 7) (vs := [(.int (0 : Int32)), (.int (0 : Int32)), (.int (0 : Int32)), (.int (0 : Int32)), (.int (0 : Int32)), (.int (0 : Int32)), (.int (0 : Int32))]) (ad := "[I") (pc' := 187) C X178 (by decide) (hw _ (List.mem_of_getElem? (i := 10) rfl)) e178 (by decide) (by decide) (by decide) (by decide) (by decide) rfl d3_185 rfl ?_
  intro T184 h184 b184 k184 X184 e184 g184 E184 A184 Ea184
  have n_b184 : Z.heap.size ≤ b184 := Nat.le_trans O185.1 (Nat.le_of_eq g184.symm)
  have z_b184 : h0.size ≤ b184 := Nat.le_trans (Nat.le_trans (Nat.le_trans (Nat.le_trans (Nat.le_trans (Nat.le_trans (Nat.le_trans (Nat.le_trans (Nat.le_trans (Nat.le_trans (Nat.le_trans (Nat.le_trans (Nat.le_trans (Nat.le_trans (Nat.le_trans (Nat.le_trans (Nat.le_trans (Nat.le_trans (Nat.le_trans (Nat.le_trans (Nat.le_trans (Nat.le_refl _) K105.1) (Nat.le_of_eq W106.size.symm)) E109.1) E114.1) (Nat.le_of_eq W116.size.symm)) E123.1) (Nat.le_of_eq W127.size.symm)) E133.1) (Nat.le_of_eq W136.size.symm)) E141.1) (Nat.le_of_eq W144.size.symm)) E149.1) (Nat.le_of_eq W152.size.symm)) E157.1) (Nat.le_of_eq W160.size.symm)) E165.1) (Nat.le_of_eq W168.size.symm)) E173.1) (Nat.le_of_eq W176.size.symm)) E178.1) (Nat.le_of_eq g184.symm)
  have A184 : AL Z h184 b184 k184 .int [(.int (0 : Int32)), (.int (0 : Int32)), (.int (0 : Int32)), (.int (0 : Int32)), (.int (0 : Int32)), (.int (0 : Int32)), (.int (0 : Int32))] := A184
  have c187 : Fld Z h184 r "com/example/opacheck/opacheck/PrecedenceTraversal" "visitedIn" "[I" .null := (Fld.ext E184 (Fld.ext E178 (Fld.other W176 (Fld.ext E173 (Fld.other W168 (Fld.ext E165 (Fld.other W160 (Fld.ext E157 (Fld.other W152 (Fld.ext E149 (Fld.other W144 (Fld.ext E141 (Fld.other W136 (Fld.ext E133 (Fld.other W127 (Fld.ext E123 (Fld.other W116 (Fld.ext E114 (Fld.ext E109 (Fld.other W106 (Fld.keep FvisitedIn K105 nin0) (Or.inr (slot_ne (Or.inr (hw _ (List.mem_of_getElem? (i := 50) rfl))) (Or.inr (hw _ (List.mem_of_getElem? (i := 41) rfl))) (by decide) (t := (.array .int)) (t' := (.array .int)) (by decide) (by decide)))))) (Or.inr (slot_ne (Or.inr (hw _ (List.mem_of_getElem? (i := 50) rfl))) (Or.inr (hw _ (List.mem_of_getElem? (i := 47) rfl))) (by decide) (t := (.array .int)) (t' := (.array (.array .int))) (by decide) (by decide))))) (Or.inl (Ne.symm ne125)))) (Or.inl (Ne.symm ne125)))) (Or.inl (Ne.symm ne125)))) (Or.inl (Ne.symm ne125)))) (Or.inl (Ne.symm ne125)))) (Or.inl (Ne.symm ne125)))) (Or.inl (Ne.symm ne125)))))
  have c188 : Exa Z h184 r "com/example/opacheck/opacheck/PrecedenceTraversal" := (Exa.ext E184 (Exa.ext E178 (Exa.wr W176 (Exa.ext E173 (Exa.wr W168 (Exa.ext E165 (Exa.wr W160 (Exa.ext E157 (Exa.wr W152 (Exa.ext E149 (Exa.wr W144 (Exa.ext E141 (Exa.wr W136 (Exa.ext E133 (Exa.wr W127 (Exa.ext E123 (Exa.wr W116 c118)))))))))))))))))
  refine Go.putF (pc' := 190) (host := "") (ty := (.array .int)) C X184 (Or.inl (hw _ (List.mem_of_getElem? (i := 49) rfl))) Via.refl e184 c187 c188 (Or.inr ⟨(hw _ (List.mem_of_getElem? (i := 50) rfl)), rfl, rfl⟩) (hw _ (List.mem_of_getElem? (i := 18) rfl)) (by decide) rfl rfl d3_187 rfl ?_
  intro T186 h186 X186 e186 W186 F186
  have N186 := Fr.snoc X186 N176 hn
  refine Go.aloadN (pc' := 191) C X186 d3_190 rfl rfl rfl ?_
  refine Go.iloadN (pc' := 192) C X186 d3_191 rfl rfl ?_
  have O190 : Ext Z.heap h186 := (Ext.wr (Ext.trans O185 E184) W186 hn)
  refine Go.newP (aty := .int) (cap := 7) (vs := [(.int (0 : Int32)), (.int (0 : Int32)), (.int (0 : Int32)), (.int (0 : Int32)), (.int (0 : Int32)), (.int (0 : Int32)), (.int (0 : Int32))]) (ad := "[I") (pc' := 194) C X186 (by decide) (hw _ (List.mem_of_getElem? (i := 10) rfl)) e186 (by decide) (by decide) (by decide) (by decide) (by decide) rfl d3_192 rfl ?_
  intro T189 h189 b189 k189 X189 e189 g189 E189 A189 Ea189
  have n_b189 : Z.heap.size ≤ b189 := Nat.le_trans O190.1 (Nat.le_of_eq g189.symm)
  have z_b189 : h0.size ≤ b189 := Nat.le_trans (Nat.le_trans (Nat.le_trans (Nat.le_trans (Nat.le_trans (Nat.le_trans (Nat.le_trans (Nat.le_trans (Nat.le_trans (Nat.le_trans (Nat.le_trans (Nat.le_trans (Nat.le_trans (Nat.le_trans (Nat.le_trans (Nat.le_trans (Nat.le_trans (Nat.le_trans (Nat.le_trans (Nat.le_trans (Nat.le_trans (Nat.le_trans (Nat.le_trans (Nat.le_refl _) K105.1) (Nat.le_of_eq W106.size.symm)) E109.1) E114.1) (Nat.le_of_eq W116.size.symm)) E123.1) (Nat.le_of_eq W127.size.symm)) E133.1) (Nat.le_of_eq W136.size.symm)) E141.1) (Nat.le_of_eq W144.size.symm)) E149.1) (Nat.le_of_eq W152.size.symm)) E157.1) (Nat.le_of_eq W160.size.symm)) E165.1) (Nat.le_of_eq W168.size.symm)) E173.1) (Nat.le_of_eq W176.size.symm)) E178.1) E184.1) (Nat.le_of_eq W186.size.symm)) (Nat.le_of_eq g189.symm)
  have A189 : AL Z h189 b189 k189 .int [(.int (0 : Int32)), (.int (0 : Int32)), (.int (0 : Int32)), (.int (0 : Int32)), (.int (0 : Int32)), (.int (0 : Int32)), (.int (0 : Int32))] := A189
  have c192 : Fld Z h189 r "com/example/opacheck/opacheck/PrecedenceTraversal" "positions" "[I" .null := (Fld.ext E189 (Fld.other W186 (Fld.ext E184 (Fld.ext E178 (Fld.other W176 (Fld.ext E173 (Fld.other W168 (Fld.ext E165 (Fld.other W160 (Fld.ext E157 (Fld.other W152 (Fld.ext E149 (Fld.other W144 (Fld.ext E141 (Fld.other W136 (Fld.ext E133 (Fld.other W127 (Fld.ext E123 (Fld.other W116 (Fld.ext E114 (Fld.ext E109 (Fld.other W106 (Fld.keep Fpositions K105 nin0) (Or.inr (slot_ne (Or.inr (hw _ (List.mem_of_getElem? (i := 52) rfl))) (Or.inr (hw _ (List.mem_of_getElem? (i := 41) rfl))) (by decide) (t := (.array .int)) (t' := (.array .int)) (by decide) (by decide)))))) (Or.inr (slot_ne (Or.inr (hw _ (List.mem_of_getElem? (i := 52) rfl))) (Or.inr (hw _ (List.mem_of_getElem? (i := 47) rfl))) (by decide) (t := (.array .int)) (t' := (.array (.array .int))) (by decide) (by decide))))) (Or.inl (Ne.symm ne125)))) (Or.inl (Ne.symm ne125)))) (Or.inl (Ne.symm ne125)))) (Or.inl (Ne.symm ne125)))) (Or.inl (Ne.symm ne125)))) (Or.inl (Ne.symm ne125)))) (Or.inl (Ne.symm ne125))))) (Or.inr (slot_ne (Or.inr (hw _ (List.mem_of_getElem? (i := 52) rfl))) (Or.inr (hw _ (List.mem_of_getElem? (i := 50) rfl))) (by decide) (t := (.array .int)) (t' := (.array .int)) (by decide) (by decide)))))
  have c193 : Exa Z h189 r "com/example/opacheck/opacheck/PrecedenceTraversal" := (Exa.ext E189 (Exa.wr W186 c188))
  refine Go.putF (pc' := 197) (host := "") (ty := (.array .int)) C X189 (Or.inl (hw _ (List.mem_of_getElem? (i := 51) rfl))) Via.refl e189 c192 c193 (Or.inr ⟨(hw _ (List.mem_of_getElem? (i := 52) rfl)), rfl, rfl⟩) (hw _ (List.mem_of_getElem? (i := 18) rfl)) (by decide) rfl rfl d3_194 rfl ?_
  intro T191 h191 X191 e191 W191 F191
  have N191 := Fr.snoc X191 N186 hn
  refine Go.aloadN (pc' := 198) C X191 d3_197 rfl rfl rfl ?_
  refine Go.aloadN (pc' := 199) C X191 d3_198 rfl rfl rfl ?_
  have c195 : Fld Z h191 r "com/example/opacheck/opacheck/PrecedenceTraversal" "members" "[I" (.ref b_105) := (Fld.other W191 (Fld.ext E189 (Fld.other W186 (Fld.ext E184 (Fld.ext E178 (Fld.other W176 (Fld.ext E173 (Fld.other W168 (Fld.ext E165 (Fld.other W160 (Fld.ext E157 (Fld.other W152 (Fld.ext E149 (Fld.other W144 (Fld.ext E141 (Fld.other W136 (Fld.ext E133 (Fld.other W127 (Fld.ext E123 (Fld.other W116 (Fld.ext E114 (Fld.ext E109 F106)) (Or.inr (slot_ne (Or.inr (hw _ (List.mem_of_getElem? (i := 41) rfl))) (Or.inr (hw _ (List.mem_of_getElem? (i := 47) rfl))) (by decide) (t := (.array .int)) (t' := (.array (.array .int))) (by decide) (by decide))))) (Or.inl (Ne.symm ne125)))) (Or.inl (Ne.symm ne125)))) (Or.inl (Ne.symm ne125)))) (Or.inl (Ne.symm ne125)))) (Or.inl (Ne.symm ne125)))) (Or.inl (Ne.symm ne125)))) (Or.inl (Ne.symm ne125))))) (Or.inr (slot_ne (Or.inr (hw _ (List.mem_of_getElem? (i := 41) rfl))) (Or.inr (hw _ (List.mem_of_getElem? (i := 50) rfl))) (by decide) (t := (.array .int)) (t' := (.array .int)) (by decide) (by decide))))) (Or.inr (slot_ne (Or.inr (hw _ (List.mem_of_getElem? (i := 41) rfl))) (Or.inr (hw _ (List.mem_of_getElem? (i := 52) rfl))) (by decide) (t := (.array .int)) (t' := (.array .int)) (by decide) (by decide))))
  refine Go.getF (pc' := 202) (host := "") C X191 (Or.inl (hw _ (List.mem_of_getElem? (i := 40) rfl))) Via.refl e191 c195 d3_199 rfl ?_
  intro T194 X194 e194
  have ne196 : b_105 ≠ r := (Nat.ne_of_gt (Nat.lt_of_lt_of_le E0.lt (Nat.le_trans (Nat.le_refl _) B105_0)))
  have ne197 : b_105 ≠ b114 := Nat.ne_of_lt (Nat.lt_of_lt_of_le P105_0.lt (Nat.le_trans (Nat.le_trans (Nat.le_trans (Nat.le_refl _) (Nat.le_of_eq W106.size.symm)) E109.1) (Nat.le_of_eq g114.symm)))
  have c198 : AL Z h191 b_105 kb_105 .int [] := (AL.other W191 (AL.ext E189 (AL.other W186 (AL.ext E184 (AL.ext E178 (AL.other W176 (AL.ext E173 (AL.other W168 (AL.ext E165 (AL.other W160 (AL.ext E157 (AL.other W152 (AL.ext E149 (AL.other W144 (AL.ext E141 (AL.other W136 (AL.ext E133 (AL.other W127 (AL.ext E123 (AL.other W116 (AL.ext E114 (AL.ext E109 (AL.other W106 P105_0 ne196))) ne196)) ne197)) ne197)) ne197)) ne197)) ne197)) ne197)) ne197))) ne196)) ne196)
  refine Go.alen (z := (0 : Int32)) (pc' := 203) C X194 e194 c198 rfl d3_202 rfl ?_
  refine Go.iconst (z := (1 : Int32)) (pc' := 204) C X194 d3_203 rfl rfl ?_
  refine Go.iadd (pc' := 205) C X194 d3_204 rfl ?_
  rw [show ((0 : Int32) + (1 : Int32)) = (1 : Int32) from by decide]
  have O200 : Ext Z.heap h191 := (Ext.wr (Ext.trans O190 E189) W191 hn)
  refine Go.newP (aty := .int) (cap := 1) (vs := [(.int (0 : Int32))]) (ad := "[I") (pc' := 207) C X194 (by decide) (hw _ (List.mem_of_getElem? (i := 10) rfl)) e194 (by decide) (by decide) (by decide) (by decide) (by decide) rfl d3_205 rfl ?_
  intro T199 h199 b199 k199 X199 e199 g199 E199 A199 Ea199
  have n_b199 : Z.heap.size ≤ b199 := Nat.le_trans O200.1 (Nat.le_of_eq g199.symm)
  have z_b199 : h0.size ≤ b199 := Nat.le_trans (Nat.le_trans (Nat.le_trans (Nat.le_trans (Nat.le_trans (Nat.le_trans (Nat.le_trans (Nat.le_trans (Nat.le_trans (Nat.le_trans (Nat.le_trans (Nat.le_trans (Nat.le_trans (Nat.le_trans (Nat.le_trans (Nat.le_trans (Nat.le_trans (Nat.le_trans (Nat.le_trans (Nat.le_trans (Nat.le_trans (Nat.le_trans (Nat.le_trans (Nat.le_trans (Nat.le_trans (Nat.le_refl _) K105.1) (Nat.le_of_eq W106.size.symm)) E109.1) E114.1) (Nat.le_of_eq W116.size.symm)) E123.1) (Nat.le_of_eq W127.size.symm)) E133.1) (Nat.le_of_eq W136.size.symm)) E141.1) (Nat.le_of_eq W144.size.symm)) E149.1) (Nat.le_of_eq W152.size.symm)) E157.1) (Nat.le_of_eq W160.size.symm)) E165.1) (Nat.le_of_eq W168.size.symm)) E173.1) (Nat.le_of_eq W176.size.symm)) E178.1) E184.1) (Nat.le_of_eq W186.size.symm)) E189.1) (Nat.le_of_eq W191.size.symm)) (Nat.le_of_eq g199.symm)
  have A199 : AL Z h199 b199 k199 .int [(.int (0 : Int32))] := A199
  have c202 : Fld Z h199 r "com/example/opacheck/opacheck/PrecedenceTraversal" "links" "[I" .null := (Fld.ext E199 (Fld.other W191 (Fld.ext E189 (Fld.other W186 (Fld.ext E184 (Fld.ext E178 (Fld.other W176 (Fld.ext E173 (Fld.other W168 (Fld.ext E165 (Fld.other W160 (Fld.ext E157 (Fld.other W152 (Fld.ext E149 (Fld.other W144 (Fld.ext E141 (Fld.other W136 (Fld.ext E133 (Fld.other W127 (Fld.ext E123 (Fld.other W116 (Fld.ext E114 (Fld.ext E109 (Fld.other W106 (Fld.keep Flinks K105 nin0) (Or.inr (slot_ne (Or.inr (hw _ (List.mem_of_getElem? (i := 54) rfl))) (Or.inr (hw _ (List.mem_of_getElem? (i := 41) rfl))) (by decide) (t := (.array .int)) (t' := (.array .int)) (by decide) (by decide)))))) (Or.inr (slot_ne (Or.inr (hw _ (List.mem_of_getElem? (i := 54) rfl))) (Or.inr (hw _ (List.mem_of_getElem? (i := 47) rfl))) (by decide) (t := (.array .int)) (t' := (.array (.array .int))) (by decide) (by decide))))) (Or.inl (Ne.symm ne125)))) (Or.inl (Ne.symm ne125)))) (Or.inl (Ne.symm ne125)))) (Or.inl (Ne.symm ne125)))) (Or.inl (Ne.symm ne125)))) (Or.inl (Ne.symm ne125)))) (Or.inl (Ne.symm ne125))))) (Or.inr (slot_ne (Or.inr (hw _ (List.mem_of_getElem? (i := 54) rfl))) (Or.inr (hw _ (List.mem_of_getElem? (i := 50) rfl))) (by decide) (t := (.array .int)) (t' := (.array .int)) (by decide) (by decide))))) (Or.inr (slot_ne (Or.inr (hw _ (List.mem_of_getElem? (i := 54) rfl))) (Or.inr (hw _ (List.mem_of_getElem? (i := 52) rfl))) (by decide) (t := (.array .int)) (t' := (.array .int)) (by decide) (by decide)))))
  have c203 : Exa Z h199 r "com/example/opacheck/opacheck/PrecedenceTraversal" := (Exa.ext E199 (Exa.wr W191 c193))
  refine Go.putF (pc' := 210) (host := "") (ty := (.array .int)) C X199 (Or.inl (hw _ (List.mem_of_getElem? (i := 53) rfl))) Via.refl e199 c202 c203 (Or.inr ⟨(hw _ (List.mem_of_getElem? (i := 54) rfl)), rfl, rfl⟩) (hw _ (List.mem_of_getElem? (i := 18) rfl)) (by decide) rfl rfl d3_207 rfl ?_
  intro T201 h201 X201 e201 W201 F201
  have N201 := Fr.snoc X201 N191 hn
  refine Go.aloadN (pc' := 211) C X201 d3_210 rfl rfl rfl ?_
  refine Go.aloadN (pc' := 212) C X201 d3_211 rfl rfl rfl ?_
  have c205 : Fld Z h201 r "com/example/opacheck/opacheck/PrecedenceTraversal" "members" "[I" (.ref b_105) := (Fld.other W201 (Fld.ext E199 c195) (Or.inr (slot_ne (Or.inr (hw _ (List.mem_of_getElem? (i := 41) rfl))) (Or.inr (hw _ (List.mem_of_getElem? (i := 54) rfl))) (by decide) (t := (.array .int)) (t' := (.array .int)) (by decide) (by decide))))
  refine Go.getF (pc' := 215) (host := "") C X201 (Or.inl (hw _ (List.mem_of_getElem? (i := 40) rfl))) Via.refl e201 c205 d3_212 rfl ?_
  intro T204 X204 e204
  have c206 : AL Z h201 b_105 kb_105 .int [] := (AL.other W201 (AL.ext E199 c198) ne196)
  refine Go.alen (z := (0 : Int32)) (pc' := 216) C X204 e204 c206 rfl d3_215 rfl ?_
  refine Go.iconst (z := (1 : Int32)) (pc' := 217) C X204 d3_216 rfl rfl ?_
  refine Go.iadd (pc' := 218) C X204 d3_217 rfl ?_
  rw [show ((0 : Int32) + (1 : Int32)) = (1 : Int32) from by decide]
  have O208 : Ext Z.heap h201 := (Ext.wr (Ext.trans O200 E199) W201 hn)
  refine Go.newP (aty := .int) (cap := 1) (vs := [(.int (0 : Int32))]) (ad := "[I") (pc' := 220) C X204 (by decide) (hw _ (List.mem_of_getElem? (i := 10) rfl)) e204 (by decide) (by decide) (by decide) (by decide) (by decide) rfl d3_218 rfl ?_
  intro T207 h207 b207 k207 X207 e207 g207 E207 A207 Ea207
  have n_b207 : Z.heap.size ≤ b207 := Nat.le_trans O208.1 (Nat.le_of_eq g207.symm)
  have z_b207 : h0.size ≤ b207 := Nat.le_trans (Nat.le_trans (Nat.le_trans (Nat.le_trans (Nat.le_trans (Nat.le_trans (Nat.le_trans (Nat.le_trans (Nat.le_trans (Nat.le_trans (Nat.le_trans (Nat.le_trans (Nat.le_trans (Nat.le_trans (Nat.le_trans (Nat.le_trans (Nat.le_trans (Nat.le_trans (Nat.le_trans (Nat.le_trans (Nat.le_trans (Nat.le_trans (Nat.le_trans (Nat.le_trans (Nat.le_trans (Nat.le_trans (Nat.le_trans (Nat.le_refl _) K105.1) (Nat.le_of_eq W106.size.symm)) E109.1) E114.1) (Nat.le_of_eq W116.size.symm)) E123.1) (Nat.le_of_eq W127.size.symm)) E133.1) (Nat.le_of_eq W136.size.symm)) E141.1) (Nat.le_of_eq W144.size.symm)) E149.1) (Nat.le_of_eq W152.size.symm)) E157.1) (Nat.le_of_eq W160.size.symm)) E165.1) (Nat.le_of_eq W168.size.symm)) E173.1) (Nat.le_of_eq W176.size.symm)) E178.1) E184.1) (Nat.le_of_eq W186.size.symm)) E189.1) (Nat.le_of_eq W191.size.symm)) E199.1) (Nat.le_of_eq W201.size.symm)) (Nat.le_of_eq g207.symm)
  have A207 : AL Z h207 b207 k207 .int [(.int (0 : Int32))] := A207
  have c210 : Fld Z h207 r "com/example/opacheck/opacheck/PrecedenceTraversal" "linkedIn" "[I" .null := (Fld.ext E207 (Fld.other W201 (Fld.ext E199 (Fld.other W191 (Fld.ext E189 (Fld.other W186 (Fld.ext E184 (Fld.ext E178 (Fld.other W176 (Fld.ext E173 (Fld.other W168 (Fld.ext E165 (Fld.other W160 (Fld.ext E157 (Fld.other W152 (Fld.ext E149 (Fld.other W144 (Fld.ext E141 (Fld.other W136 (Fld.ext E133 (Fld.other W127 (Fld.ext E123 (Fld.other W116 (Fld.ext E114 (Fld.ext E109 (Fld.other W106 (Fld.keep FlinkedIn K105 nin0) (Or.inr (slot_ne (Or.inr (hw _ (List.mem_of_getElem? (i := 56) rfl))) (Or.inr (hw _ (List.mem_of_getElem? (i := 41) rfl))) (by decide) (t := (.array .int)) (t' := (.array .int)) (by decide) (by decide)))))) (Or.inr (slot_ne (Or.inr (hw _ (List.mem_of_getElem? (i := 56) rfl))) (Or.inr (hw _ (List.mem_of_getElem? (i := 47) rfl))) (by decide) (t := (.array .int)) (t' := (.array (.array .int))) (by decide) (by decide))))) (Or.inl (Ne.symm ne125)))) (Or.inl (Ne.symm ne125)))) (Or.inl (Ne.symm ne125)))) (Or.inl (Ne.symm ne125)))) (Or.inl (Ne.symm ne125)))) (Or.inl (Ne.symm ne125)))) (Or.inl (Ne.symm ne125))))) (Or.inr (slot_ne (Or.inr (hw _ (List.mem_of_getElem? (i := 56) rfl))) (Or.inr (hw _ (List.mem_of_getElem? (i := 50) rfl))) (by decide) (t := (.array .int)) (t' := (.array .int)) (by decide) (by decide))))) (Or.inr (slot_ne (Or.inr (hw _ (List.mem_of_getElem? (i := 56) rfl))) (Or.inr (hw _ (List.mem_of_getElem? (i := 52) rfl))) (by decide) (t := (.array .int)) (t' := (.array .int)) (by decide) (by decide))))) (Or.inr (slot_ne (Or.inr (hw _ (List.mem_of_getElem? (i := 56) rfl))) (Or.inr (hw _ (List.mem_of_getElem? (i := 54) rfl))) (by decide) (t := (.array .int)) (t' := (.array .int)) (by decide) (by decide)))))
  have c211 : Exa Z h207 r "com/example/opacheck/opacheck/PrecedenceTraversal" := (Exa.ext E207 (Exa.wr W201 c203))
  refine Go.putF (pc' := 223) (host := "") (ty := (.array .int)) C X207 (Or.inl (hw _ (List.mem_of_getElem? (i := 55) rfl))) Via.refl e207 c210 c211 (Or.inr ⟨(hw _ (List.mem_of_getElem? (i := 56) rfl)), rfl, rfl⟩) (hw _ (List.mem_of_getElem? (i := 18) rfl)) (by decide) rfl rfl d3_220 rfl ?_
  intro T209 h209 X209 e209 W209 F209
  have N209 := Fr.snoc X209 N201 hn
  refine Go.aloadN (pc' := 224) C X209 d3_223 rfl rfl rfl ?_
  refine Go.iloadN (pc' := 225) C X209 d3_224 rfl rfl ?_
  have O213 : Ext Z.heap h209 := (Ext.wr (Ext.trans O208 E207) W209 hn)
  refine Go.newP (aty := .int) (cap := 7) (vs := [(.int (0 : Int32)), (.int (0 : Int32)), (.int (0 : Int32)), (.int (0 : Int32)), (.int (0 : Int32)), (.int (0 : Int32)), (.int (0 : Int32))]) (ad := "[I") (pc' := 227) C X209 (by decide) (hw _ (List.mem_of_getElem? (i := 10) rfl)) e209 (by decide) (by decide) (by decide) (by decide) (by decide) rfl d3_225 rfl ?_
  intro T212 h212 b212 k212 X212 e212 g212 E212 A212 Ea212
  have n_b212 : Z.heap.size ≤ b212 := Nat.le_trans O213.1 (Nat.le_of_eq g212.symm)
  have z_b212 : h0.size ≤ b212 := Nat.le_trans (Nat.le_trans (Nat.le_trans (Nat.le_trans (Nat.le_trans (Nat.le_trans (Nat.le_trans (Nat.le_trans (Nat.le_trans (Nat.le_trans (Nat.le_trans (Nat.le_trans (Nat.le_trans (Nat.le_trans (Nat.le_trans (Nat.le_trans (Nat.le_trans (Nat.le_trans (Nat.le_trans (Nat.le_trans (Nat.le_trans (Nat.le_trans (Nat.le_trans (Nat.le_trans (Nat.le_trans (Nat.le_trans (Nat.le_trans (Nat.le_trans (Nat.le_trans (Nat.le_refl _) K105.1) (Nat.le_of_eq W106.size.symm)) E109.1) E114.1) (Nat.le_of_eq W116.size.symm)) E123.1) (Nat.le_of_eq W127.size.symm)) E133.1) (Nat.le_of_eq W136.size.symm)) E141.1) (Nat.le_of_eq W144.size.symm)) E149.1) (Nat.le_of_eq W152.size.symm)) E157.1) (Nat.le_of_eq W160.size.symm)) E165.1) (Nat.le_of_eq W168.size.symm)) E173.1) (Nat.le_of_eq W176.size.symm)) E178.1) E184.1) (Nat.le_of_eq W186.size.symm)) E189.1) (Nat.le_of_eq W191.size.symm)) E199.1) (Nat.le_of_eq W201.size.symm)) E207.1) (Nat.le_of_eq W209.size.symm)) (Nat.le_of_eq g212.symm)
  have A212 : AL Z h212 b212 k212 .int [(.int (0 : Int32)), (.int (0 : Int32)), (.int (0 : Int32)), (.int (0 : Int32)), (.int (0 : Int32)), (.int (0 : Int32)), (.int (0 : Int32))] := A212
  have c215 : Fld Z h212 r "com/example/opacheck/opacheck/PrecedenceTraversal" "path" "[I" .null := (Fld.ext E212 (Fld.other W209 (Fld.ext E207 (Fld.other W201 (Fld.ext E199 (Fld.other W191 (Fld.ext E189 (Fld.other W186 (Fld.ext E184 (Fld.ext E178 (Fld.other W176 (Fld.ext E173 (Fld.other W168 (Fld.ext E165 (Fld.other W160 (Fld.ext E157 (Fld.other W152 (Fld.ext E149 (Fld.other W144 (Fld.ext E141 (Fld.other W136 (Fld.ext E133 (Fld.other W127 (Fld.ext E123 (Fld.other W116 (Fld.ext E114 (Fld.ext E109 (Fld.other W106 (Fld.keep Fpath K105 nin0) (Or.inr (slot_ne (Or.inr (hw _ (List.mem_of_getElem? (i := 58) rfl))) (Or.inr (hw _ (List.mem_of_getElem? (i := 41) rfl))) (by decide) (t := (.array .int)) (t' := (.array .int)) (by decide) (by decide)))))) (Or.inr (slot_ne (Or.inr (hw _ (List.mem_of_getElem? (i := 58) rfl))) (Or.inr (hw _ (List.mem_of_getElem? (i := 47) rfl))) (by decide) (t := (.array .int)) (t' := (.array (.array .int))) (by decide) (by decide))))) (Or.inl (Ne.symm ne125)))) (Or.inl (Ne.symm ne125)))) (Or.inl (Ne.symm ne125)))) (Or.inl (Ne.symm ne125)))) (Or.inl (Ne.symm ne125)))) (Or.inl (Ne.symm ne125)))) (Or.inl (Ne.symm ne125))))) (Or.inr (slot_ne (Or.inr (hw _ (List.mem_of_getElem? (i := 58) rfl))) (Or.inr (hw _ (List.mem_of_getElem? (i := 50) rfl))) (by decide) (t := (.array .int)) (t' := (.array .int)) (by decide) (by decide))))) (Or.inr (slot_ne (Or.inr (hw _ (List.mem_of_getElem? (i := 58) rfl))) (Or.inr (hw _ (List.mem_of_getElem? (i := 52) rfl))) (by decide) (t := (.array .int)) (t' := (.array .int)) (by decide) (by decide))))) (Or.inr (slot_ne (Or.inr (hw _ (List.mem_of_getElem? (i := 58) rfl))) (Or.inr (hw _ (List.mem_of_getElem? (i := 54) rfl))) (by decide) (t := (.array .int)) (t' := (.array .int)) (by decide) (by decide))))) (Or.inr (slot_ne (Or.inr (hw _ (List.mem_of_getElem? (i := 58) rfl))) (Or.inr (hw _ (List.mem_of_getElem? (i := 56) rfl))) (by decide) (t := (.array .int)) (t' := (.array .int)) (by decide) (by decide)))))
  have c216 : Exa Z h212 r "com/example/opacheck/opacheck/PrecedenceTraversal" := (Exa.ext E212 (Exa.wr W209 c211))
  refine Go.putF (pc' := 230) (host := "") (ty := (.array .int)) C X212 (Or.inl (hw _ (List.mem_of_getElem? (i := 57) rfl))) Via.refl e212 c215 c216 (Or.inr ⟨(hw _ (List.mem_of_getElem? (i := 58) rfl)), rfl, rfl⟩) (hw _ (List.mem_of_getElem? (i := 18) rfl)) (by decide) rfl rfl d3_227 rfl ?_
  intro T214 h214 X214 e214 W214 F214
  have N214 := Fr.snoc X214 N209 hn
  have K217 : Keep h0 h214 [r] := (((((((((((((((((((((((((((((((Keep.refl h0 [r]).trans K105 all0).wr W106 (Or.inl (by simp))).ext E109).ext E114).wr W116 (Or.inl (by simp))).ext E123).wr W127 (Or.inr z_b114)).ext E133).wr W136 (Or.inr z_b114)).ext E141).wr W144 (Or.inr z_b114)).ext E149).wr W152 (Or.inr z_b114)).ext E157).wr W160 (Or.inr z_b114)).ext E165).wr W168 (Or.inr z_b114)).ext E173).wr W176 (Or.inr z_b114)).ext E178).ext E184).wr W186 (Or.inl (by simp))).ext E189).wr W191 (Or.inl (by simp))).ext E199).wr W201 (Or.inl (by simp))).ext E207).wr W209 (Or.inl (by simp))).ext E212).wr W214 (Or.inl (by simp)))
  have c218 : Fld Z h214 r "com/example/opacheck/opacheck/PrecedenceTraversal" "visitedIn" "[I" (.ref b184) := (Fld.other W214 (Fld.ext E212 (Fld.other W209 (Fld.ext E207 (Fld.other W201 (Fld.ext E199 (Fld.other W191 (Fld.ext E189 F186) (Or.inr (slot_ne (Or.inr (hw _ (List.mem_of_getElem? (i := 50) rfl))) (Or.inr (hw _ (List.mem_of_getElem? (i := 52) rfl))) (by decide) (t := (.array .int)) (t' := (.array .int)) (by decide) (by decide))))) (Or.inr (slot_ne (Or.inr (hw _ (List.mem_of_getElem? (i := 50) rfl))) (Or.inr (hw _ (List.mem_of_getElem? (i := 54) rfl))) (by decide) (t := (.array .int)) (t' := (.array .int)) (by decide) (by decide))))) (Or.inr (slot_ne (Or.inr (hw _ (List.mem_of_getElem? (i := 50) rfl))) (Or.inr (hw _ (List.mem_of_getElem? (i := 56) rfl))) (by decide) (t := (.array .int)) (t' := (.array .int)) (by decide) (by decide))))) (Or.inr (slot_ne (Or.inr (hw _ (List.mem_of_getElem? (i := 50) rfl))) (Or.inr (hw _ (List.mem_of_getElem? (i := 58) rfl))) (by decide) (t := (.array .int)) (t' := (.array .int)) (by decide) (by decide))))
  have ne219 : b184 ≠ r := (Nat.ne_of_gt (Nat.lt_of_lt_of_le E0.lt (Nat.le_trans (Nat.le_trans (Nat.le_trans (Nat.le_trans (Nat.le_trans (Nat.le_trans (Nat.le_trans (Nat.le_trans (Nat.le_trans (Nat.le_trans (Nat.le_trans (Nat.le_trans (Nat.le_trans (Nat.le_trans (Nat.le_trans (Nat.le_trans (Nat.le_trans (Nat.le_trans (Nat.le_trans (Nat.le_trans (Nat.le_trans (Nat.le_refl _) K105.1) (Nat.le_of_eq W106.size.symm)) E109.1) E114.1) (Nat.le_of_eq W116.size.symm)) E123.1) (Nat.le_of_eq W127.size.symm)) E133.1) (Nat.le_of_eq W136.size.symm)) E141.1) (Nat.le_of_eq W144.size.symm)) E149.1) (Nat.le_of_eq W152.size.symm)) E157.1) (Nat.le_of_eq W160.size.symm)) E165.1) (Nat.le_of_eq W168.size.symm)) E173.1) (Nat.le_of_eq W176.size.symm)) E178.1) (Nat.le_of_eq g184.symm))))
  have c220 : AL Z h214 b184 k184 .int [(.int (0 : Int32)), (.int (0 : Int32)), (.int (0 : Int32)), (.int (0 : Int32)), (.int (0 : Int32)), (.int (0 : Int32)), (.int (0 : Int32))] := (AL.other W214 (AL.ext E212 (AL.other W209 (AL.ext E207 (AL.other W201 (AL.ext E199 (AL.other W191 (AL.ext E189 (AL.other W186 A184 ne219)) ne219)) ne219)) ne219)) ne219)
  have c221 : Fld Z h214 r "com/example/opacheck/opacheck/PrecedenceTraversal" "positions" "[I" (.ref b189) := (Fld.other W214 (Fld.ext E212 (Fld.other W209 (Fld.ext E207 (Fld.other W201 (Fld.ext E199 F191) (Or.inr (slot_ne (Or.inr (hw _ (List.mem_of_getElem? (i := 52) rfl))) (Or.inr (hw _ (List.mem_of_getElem? (i := 54) rfl))) (by decide) (t := (.array .int)) (t' := (.array .int)) (by decide) (by decide))))) (Or.inr (slot_ne (Or.inr (hw _ (List.mem_of_getElem? (i := 52) rfl))) (Or.inr (hw _ (List.mem_of_getElem? (i := 56) rfl))) (by decide) (t := (.array .int)) (t' := (.array .int)) (by decide) (by decide))))) (Or.inr (slot_ne (Or.inr (hw _ (List.mem_of_getElem? (i := 52) rfl))) (Or.inr (hw _ (List.mem_of_getElem? (i := 58) rfl))) (by decide) (t := (.array .int)) (t' := (.array .int)) (by decide) (by decide))))
  have ne222 : b189 ≠ r := (Nat.ne_of_gt (Nat.lt_of_lt_of_le E0.lt (Nat.le_trans (Nat.le_trans (Nat.le_trans (Nat.le_trans (Nat.le_trans (Nat.le_trans (Nat.le_trans (Nat.le_trans (Nat.le_trans (Nat.le_trans (Nat.le_trans (Nat.le_trans (Nat.le_trans (Nat.le_trans (Nat.le_trans (Nat.le_trans (Nat.le_trans (Nat.le_trans (Nat.le_trans (Nat.le_trans (Nat.le_trans (Nat.le_trans (Nat.le_trans (Nat.le_refl _) K105.1) (Nat.le_of_eq W106.size.symm)) E109.1) E114.1) (Nat.le_of_eq W116.size.symm)) E123.1) (Nat.le_of_eq W127.size.symm)) E133.1) (Nat.le_of_eq W136.size.symm)) E141.1) (Nat.le_of_eq W144.size.symm)) E149.1) (Nat.le_of_eq W152.size.symm)) E157.1) (Nat.le_of_eq W160.size.symm)) E165.1) (Nat.le_of_eq W168.size.symm)) E173.1) (Nat.le_of_eq W176.size.symm)) E178.1) E184.1) (Nat.le_of_eq W186.size.symm)) (Nat.le_of_eq g189.symm))))
  have c223 : AL Z h214 b189 k189 .int [(.int (0 : Int32)), (.int (0 : Int32)), (.int (0 : Int32)), (.int (0 : Int32)), (.int (0 : Int32)), (.int (0 : Int32)), (.int (0 : Int32))] := (AL.other W214 (AL.ext E212 (AL.other W209 (AL.ext E207 (AL.other W201 (AL.ext E199 (AL.other W191 A189 ne222)) ne222)) ne222)) ne222)
  have c224 : Fld Z h214 r "com/example/opacheck/opacheck/PrecedenceTraversal" "number" "I" (.int (0 : Int32)) := (Fld.other W214 (Fld.ext E212 (Fld.other W209 (Fld.ext E207 (Fld.other W201 (Fld.ext E199 (Fld.other W191 (Fld.ext E189 (Fld.other W186 (Fld.ext E184 (Fld.ext E178 (Fld.other W176 (Fld.ext E173 (Fld.other W168 (Fld.ext E165 (Fld.other W160 (Fld.ext E157 (Fld.other W152 (Fld.ext E149 (Fld.other W144 (Fld.ext E141 (Fld.other W136 (Fld.ext E133 (Fld.other W127 (Fld.ext E123 (Fld.other W116 (Fld.ext E114 (Fld.ext E109 (Fld.other W106 (Fld.keep Fnum K105 nin0) (Or.inr (slot_ne (Or.inl (hw _ (List.mem_of_getElem? (i := 65) rfl))) (Or.inr (hw _ (List.mem_of_getElem? (i := 41) rfl))) (by decide) (t := .int) (t' := (.array .int)) (by decide) (by decide)))))) (Or.inr (slot_ne (Or.inl (hw _ (List.mem_of_getElem? (i := 65) rfl))) (Or.inr (hw _ (List.mem_of_getElem? (i := 47) rfl))) (by decide) (t := .int) (t' := (.array (.array .int))) (by decide) (by decide))))) (Or.inl (Ne.symm ne125)))) (Or.inl (Ne.symm ne125)))) (Or.inl (Ne.symm ne125)))) (Or.inl (Ne.symm ne125)))) (Or.inl (Ne.symm ne125)))) (Or.inl (Ne.symm ne125)))) (Or.inl (Ne.symm ne125))))) (Or.inr (slot_ne (Or.inl (hw _ (List.mem_of_getElem? (i := 65) rfl))) (Or.inr (hw _ (List.mem_of_getElem? (i := 50) rfl))) (by decide) (t := .int) (t' := (.array .int)) (by decide) (by decide))))) (Or.inr (slot_ne (Or.inl (hw _ (List.mem_of_getElem? (i := 65) rfl))) (Or.inr (hw _ (List.mem_of_getElem? (i := 52) rfl))) (by decide) (t := .int) (t' := (.array .int)) (by decide) (by decide))))) (Or.inr (slot_ne (Or.inl (hw _ (List.mem_of_getElem? (i := 65) rfl))) (Or.inr (hw _ (List.mem_of_getElem? (i := 54) rfl))) (by decide) (t := .int) (t' := (.array .int)) (by decide) (by decide))))) (Or.inr (slot_ne (Or.inl (hw _ (List.mem_of_getElem? (i := 65) rfl))) (Or.inr (hw _ (List.mem_of_getElem? (i := 56) rfl))) (by decide) (t := .int) (t' := (.array .int)) (by decide) (by decide))))) (Or.inr (slot_ne (Or.inl (hw _ (List.mem_of_getElem? (i := 65) rfl))) (Or.inr (hw _ (List.mem_of_getElem? (i := 58) rfl))) (by decide) (t := .int) (t' := (.array .int)) (by decide) (by decide))))
  have c225 : Fld Z h214 r "com/example/opacheck/opacheck/PrecedenceTraversal" "scope" "Ljava/util/function/IntPredicate;" .null := (Fld.other W214 (Fld.ext E212 (Fld.other W209 (Fld.ext E207 (Fld.other W201 (Fld.ext E199 (Fld.other W191 (Fld.ext E189 (Fld.other W186 (Fld.ext E184 (Fld.ext E178 (Fld.other W176 (Fld.ext E173 (Fld.other W168 (Fld.ext E165 (Fld.other W160 (Fld.ext E157 (Fld.other W152 (Fld.ext E149 (Fld.other W144 (Fld.ext E141 (Fld.other W136 (Fld.ext E133 (Fld.other W127 (Fld.ext E123 (Fld.other W116 (Fld.ext E114 (Fld.ext E109 (Fld.other W106 (Fld.keep Fsc K105 nin0) (Or.inr (slot_ne (Or.inl (hw _ (List.mem_of_getElem? (i := 67) rfl))) (Or.inr (hw _ (List.mem_of_getElem? (i := 41) rfl))) (by decide) (t := (.object "java/util/function/IntPredicate")) (t' := (.array .int)) (by decide) (by decide)))))) (Or.inr (slot_ne (Or.inl (hw _ (List.mem_of_getElem? (i := 67) rfl))) (Or.inr (hw _ (List.mem_of_getElem? (i := 47) rfl))) (by decide) (t := (.object "java/util/function/IntPredicate")) (t' := (.array (.array .int))) (by decide) (by decide))))) (Or.inl (Ne.symm ne125)))) (Or.inl (Ne.symm ne125)))) (Or.inl (Ne.symm ne125)))) (Or.inl (Ne.symm ne125)))) (Or.inl (Ne.symm ne125)))) (Or.inl (Ne.symm ne125)))) (Or.inl (Ne.symm ne125))))) (Or.inr (slot_ne (Or.inl (hw _ (List.mem_of_getElem? (i := 67) rfl))) (Or.inr (hw _ (List.mem_of_getElem? (i := 50) rfl))) (by decide) (t := (.object "java/util/function/IntPredicate")) (t' := (.array .int)) (by decide) (by decide))))) (Or.inr (slot_ne (Or.inl (hw _ (List.mem_of_getElem? (i := 67) rfl))) (Or.inr (hw _ (List.mem_of_getElem? (i := 52) rfl))) (by decide) (t := (.object "java/util/function/IntPredicate")) (t' := (.array .int)) (by decide) (by decide))))) (Or.inr (slot_ne (Or.inl (hw _ (List.mem_of_getElem? (i := 67) rfl))) (Or.inr (hw _ (List.mem_of_getElem? (i := 54) rfl))) (by decide) (t := (.object "java/util/function/IntPredicate")) (t' := (.array .int)) (by decide) (by decide))))) (Or.inr (slot_ne (Or.inl (hw _ (List.mem_of_getElem? (i := 67) rfl))) (Or.inr (hw _ (List.mem_of_getElem? (i := 56) rfl))) (by decide) (t := (.object "java/util/function/IntPredicate")) (t' := (.array .int)) (by decide) (by decide))))) (Or.inr (slot_ne (Or.inl (hw _ (List.mem_of_getElem? (i := 67) rfl))) (Or.inr (hw _ (List.mem_of_getElem? (i := 58) rfl))) (by decide) (t := (.object "java/util/function/IntPredicate")) (t' := (.array .int)) (by decide) (by decide))))
  have ne226 : b184 ≠ b189 := Nat.ne_of_lt (Nat.lt_of_lt_of_le A184.lt (Nat.le_trans (Nat.le_trans (Nat.le_refl _) (Nat.le_of_eq W186.size.symm)) (Nat.le_of_eq g189.symm)))
  exact Go.retV C X214 rfl d3_230 (by rw [e214]; exact ⟨b184, k184, b189, k189, rfl, N214, K217, z_b184, z_b189, c218, c220, c221, c223, c224, c225, ne226⟩) (by decide) (by decide)
def Q_ct8 (Z : State) (r : Addr) (q : Addr) (v : Addr) (k : ClassId) (h0 : Heap) (rv : Option Value) (h : Heap) (L : List Loc) : Prop := ∃ vi : Addr, ∃ ki : ClassId, ∃ vp : Addr, ∃ kp : ClassId, rv = none ∧ Fr Z.heap.size L ∧ Keep h0 h [r] ∧ h0.size ≤ vi ∧ h0.size ≤ vp ∧ Fld Z h r "com/example/opacheck/opacheck/PrecedenceTraversal" "visitedIn" "[I" (.ref vi) ∧ AL Z h vi ki .int [(.int (0 : Int32)), (.int (0 : Int32)), (.int (0 : Int32)), (.int (0 : Int32)), (.int (0 : Int32)), (.int (0 : Int32)), (.int (0 : Int32)), (.int (0 : Int32))] ∧ Fld Z h r "com/example/opacheck/opacheck/PrecedenceTraversal" "positions" "[I" (.ref vp) ∧ AL Z h vp kp .int [(.int (0 : Int32)), (.int (0 : Int32)), (.int (0 : Int32)), (.int (0 : Int32)), (.int (0 : Int32)), (.int (0 : Int32)), (.int (0 : Int32)), (.int (0 : Int32))] ∧ Fld Z h r "com/example/opacheck/opacheck/PrecedenceTraversal" "number" "I" (.int (0 : Int32)) ∧ Fld Z h r "com/example/opacheck/opacheck/PrecedenceTraversal" "scope" "Ljava/util/function/IntPredicate;" .null ∧ vi ≠ vp
set_option maxRecDepth 65536 in
set_option maxHeartbeats 40000000 in
theorem rm_ct8 (l : Launch) (Z : State) (a0 : Array Value) (hw : ∀ d ∈ tables_1, d.before a0 Z = true) (r : Addr) (q : Addr) (v : Addr) (k : ClassId) (h0 : Heap) (O0 : Ext Z.heap h0) (E0 : Exa Z h0 r "com/example/opacheck/opacheck/PrecedenceTraversal") (Fmembers : Fld Z h0 r "com/example/opacheck/opacheck/PrecedenceTraversal" "members" "[I" .null) (Franges : Fld Z h0 r "com/example/opacheck/opacheck/PrecedenceTraversal" "ranges" "[[I" .null) (FvisitedIn : Fld Z h0 r "com/example/opacheck/opacheck/PrecedenceTraversal" "visitedIn" "[I" .null) (Fpositions : Fld Z h0 r "com/example/opacheck/opacheck/PrecedenceTraversal" "positions" "[I" .null) (Flinks : Fld Z h0 r "com/example/opacheck/opacheck/PrecedenceTraversal" "links" "[I" .null) (FlinkedIn : Fld Z h0 r "com/example/opacheck/opacheck/PrecedenceTraversal" "linkedIn" "[I" .null) (Fpath : Fld Z h0 r "com/example/opacheck/opacheck/PrecedenceTraversal" "path" "[I" .null) (Fnum : Fld Z h0 r "com/example/opacheck/opacheck/PrecedenceTraversal" "number" "I" (.int (0 : Int32))) (Fsc : Fld Z h0 r "com/example/opacheck/opacheck/PrecedenceTraversal" "scope" "Ljava/util/function/IntPredicate;" .null) (Gm : Fld Z h0 q "com/example/opacheck/opacheck/PrecedenceTraversal$Neighbours" "members" "[I" (.ref v)) (Am : AL Z h0 v k .int [(.int (0 : Int32)), (.int (0 : Int32)), (.int (0 : Int32)), (.int (0 : Int32)), (.int (0 : Int32)), (.int (0 : Int32)), (.int (0 : Int32)), (.int (0 : Int32)), (.int (0 : Int32)), (.int (0 : Int32)), (.int (0 : Int32)), (.int (0 : Int32)), (.int (0 : Int32)), (.int (0 : Int32)), (.int (0 : Int32)), (.int (0 : Int32))]) (Gs : Fld Z h0 q "com/example/opacheck/opacheck/PrecedenceTraversal$Neighbours" "size" "I" (.int (0 : Int32))) (Gr : Fld Z h0 q "com/example/opacheck/opacheck/PrecedenceTraversal$Neighbours" "rangesSize" "I" (.int (0 : Int32))) (Gc : Fld Z h0 q "com/example/opacheck/opacheck/PrecedenceTraversal$Neighbours" "count" "I" (.int (8 : Int32))) (hn : Z.heap.size ≤ r) (hne : r ≠ q) (hnv : r ≠ v) :
    Met1 l Z (⟨"com/example/opacheck/opacheck/PrecedenceTraversal", "<init>", "(Lcom/example/opacheck/opacheck/PrecedenceTraversal$Neighbours;)V"⟩ : MethodName) prog_45_method_2_code 7 none ({ frames := 2, cells := 17, slots := 50, locals := 33 } : Room) #[(.ref r), (.ref q)] h0 (Q_ct8 Z r q v k h0) := by
  refine Met1.of_body (Ls := #[.val (.ref r), .val (.ref q), .unset, .unset, .unset, .unset, .unset]) pf_3 (fun m => by first | (simp [entryFrame, mkF, argsToLocals, Value.category]; done) | rfl) ?_
  intro p e s m below meth c T0 C X0 e0
  have N0 : Fr Z.heap.size [] := Fr.nil _
  refine Go.aloadN (pc' := 1) C X0 d3_0 rfl rfl rfl ?_
  refine Go.initO (pc' := 4) (W := 0) C X0 (hw _ (List.mem_of_getElem? (i := 23) rfl)) (hw _ (List.mem_of_getElem? (i := 8) rfl)) (hw _ (List.mem_of_getElem? (i := 9) rfl)) e0 rfl (by decide) (Nat.le_of_eq rfl) (by decide) d3_1 rfl ?_
  intro T101 X101 e101
  refine Go.aloadN (pc' := 5) C X101 d3_4 rfl rfl rfl ?_
  refine Go.getFR (pc' := 8) C X101 (hw _ (List.mem_of_getElem? (i := 24) rfl)) e101 Gc d3_5 rfl ?_
  refine Go.istoreN (Ls' := #[.val (.ref r), .val (.ref q), .val (.int (8 : Int32)), .unset, .unset, .unset, .unset]) (pc' := 9) C X101 d3_8 rfl rfl ?_
  refine Go.aloadN (pc' := 10) C X101 d3_9 rfl rfl rfl ?_
  refine Go.aloadN (pc' := 11) C X101 d3_10 rfl rfl rfl ?_
  refine Go.getFR (pc' := 14) C X101 (hw _ (List.mem_of_getElem? (i := 25) rfl)) e101 Gm d3_11 rfl ?_
  refine Go.aloadN (pc' := 15) C X101 d3_14 rfl rfl rfl ?_
  refine Go.getFR (pc' := 18) C X101 (hw _ (List.mem_of_getElem? (i := 26) rfl)) e101 Gs d3_15 rfl ?_
  refine Go.callS (y := (⟨"java/util/Arrays", "copyOf", "([II)[I"⟩ : MethodName)) (pc' := 21) C X101 (hw _ (List.mem_of_getElem? (i := 28) rfl)) (hw _ (List.mem_of_getElem? (i := 29) rfl)) (by decide) (rm_cpy l Z a0 hw v k h0 O0 Am) (hw _ (List.mem_of_getElem? (i := 31) rfl)) (hw _ (List.mem_of_getElem? (i := 30) rfl)) e101 (argsL := [(.ref v), (.int (0 : Int32))]) (rest := [(.ref r)]) (W := 1) rfl rfl pd_1 rfl (Nat.le_of_eq rfl) rfl (by decide) (by decide) (by decide) (by decide) d3_18 rfl ?_
  intro T105 v105 L105 X105 q105
  obtain ⟨b_105, kb_105, rfl, N105q, K105, B105_0, P105_0⟩ := q105
  have N105 := Fr.app N0 N105q
  have n_b_105 : Z.heap.size ≤ b_105 := Nat.le_trans O0.1 B105_0
  have z_b_105 : h0.size ≤ b_105 := Nat.le_trans (Nat.le_refl _) B105_0
  have c107 : Fld Z T105.heap r "com/example/opacheck/opacheck/PrecedenceTraversal" "members" "[I" .null := (Fld.keep Fmembers K105 nin0)
  have c108 : Exa Z T105.heap r "com/example/opacheck/opacheck/PrecedenceTraversal" := (Exa.keep E0 K105)
  refine Go.putF (pc' := 24) (host := "") (ty := (.array .int)) C X105 (Or.inl (hw _ (List.mem_of_getElem? (i := 40) rfl))) Via.refl rfl c107 c108 (Or.inr ⟨(hw _ (List.mem_of_getElem? (i := 41) rfl)), rfl, rfl⟩) (hw _ (List.mem_of_getElem? (i := 18) rfl)) (by decide) rfl rfl d3_21 rfl ?_
  intro T106 h106 X106 e106 W106 F106
  have N106 := Fr.snoc X106 N105 hn
  refine Go.iloadN (pc' := 25) C X106 d3_24 rfl rfl ?_
  have O110 : Ext Z.heap h106 := (Ext.wr (Ext.keep O0 K105 all0) W106 hn)
  refine Go.newP (aty := .int) (cap := 8) (vs := [(.int (0 : Int32)), (.int (0 : Int32)), (.int (0 : Int32)), (.int (0 : Int32)), (.int (0 : Int32)), (.int (0 : Int32)), (.int (0 : Int32)), (.int (0 : Int32))]) (ad := "[I") (pc' := 27) C X106 (by decide) (hw _ (List.mem_of_getElem? (i := 10) rfl)) e106 (by decide) (by decide) (by decide) (by decide) (by decide) rfl d3_25 rfl ?_
  intro T109 h109 b109 k109 X109 e109 g109 E109 A109 Ea109
  have n_b109 : Z.heap.size ≤ b109 := Nat.le_trans O110.1 (Nat.le_of_eq g109.symm)
  have z_b109 : h0.size ≤ b109 := Nat.le_trans (Nat.le_trans (Nat.le_trans (Nat.le_refl _) K105.1) (Nat.le_of_eq W106.size.symm)) (Nat.le_of_eq g109.symm)
  have A109 : AL Z h109 b109 k109 .int [(.int (0 : Int32)), (.int (0 : Int32)), (.int (0 : Int32)), (.int (0 : Int32)), (.int (0 : Int32)), (.int (0 : Int32)), (.int (0 : Int32)), (.int (0 : Int32))] := A109
  refine Go.astoreN (Ls' := #[.val (.ref r), .val (.ref q), .val (.int (8 : Int32)), .val (.ref b109), .unset, .unset, .unset]) (pc' := 28) C X109 d3_27 rfl rfl rfl ?_
  refine Go.iconst (z := (0 : Int32)) (pc' := 29) C X109 d3_28 rfl rfl ?_
  refine Go.istore (Ls' := #[.val (.ref r), .val (.ref q), .val (.int (8 : Int32)), .val (.ref b109), .val (.int (0 : Int32)), .unset, .unset]) (pc' := 31) C X109 d3_29 rfl rfl ?_
  refine Go.iload (pc' := 33) C X109 d3_31 rfl rfl ?_
  refine Go.aloadN (pc' := 34) C X109 d3_33 rfl rfl rfl ?_
  have c112 : Fld Z h109 q "com/example/opacheck/opacheck/PrecedenceTraversal$Neighbours" "rangesSize" "I" (.int (0 : Int32)) := (Fld.ext E109 (Fld.other W106 (Fld.keep Gr K105 nin0) (Or.inl (Ne.symm hne))))
  refine Go.getFR (pc' := 37) C X109 (hw _ (List.mem_of_getElem? (i := 42) rfl)) e109 c112 d3_34 rfl ?_
  refine Go.icmpYes (pc' := 59) C X109 d3_37 (flt (x := (0 : Int32)) (y := (0 : Int32)) (by decide)).2.1 (by decide) (by decide) ?_
  refine Go.aloadN (pc' := 60) C X109 d3_59 rfl rfl rfl ?_
  refine Go.iloadN (pc' := 61) C X109 d3_60 rfl rfl ?_
  have O115 : Ext Z.heap h109 := (Ext.trans O110 E109)
  refine Go.newRA (ty := .int) (cap := 8) (vs := [.null, .null, .null, .null, .null, .null, .null, .null]) (ad := "[[I") (pc' := 64) C X109 (by decide) (by decide) (hw _ (List.mem_of_getElem? (i := 44) rfl)) (hw _ (List.mem_of_getElem? (i := 45) rfl)) e109 (by decide) (by decide) (by decide) (by decide) (by decide) rfl d3_61 rfl ?_
  intro T114 h114 b114 k114 X114 e114 g114 E114 A114 Ea114 O114v
  have n_b114 : Z.heap.size ≤ b114 := Nat.le_trans O115.1 (Nat.le_of_eq g114.symm)
  have z_b114 : h0.size ≤ b114 := Nat.le_trans (Nat.le_trans (Nat.le_trans (Nat.le_trans (Nat.le_refl _) K105.1) (Nat.le_of_eq W106.size.symm)) E109.1) (Nat.le_of_eq g114.symm)
  have A114 : AL Z h114 b114 k114 (.array .int) [.null, .null, .null, .null, .null, .null, .null, .null] := A114
  have c117 : Fld Z h114 r "com/example/opacheck/opacheck/PrecedenceTraversal" "ranges" "[[I" .null := (Fld.ext E114 (Fld.ext E109 (Fld.other W106 (Fld.keep Franges K105 nin0) (Or.inr (slot_ne (Or.inr (hw _ (List.mem_of_getElem? (i := 47) rfl))) (Or.inr (hw _ (List.mem_of_getElem? (i := 41) rfl))) (by decide) (t := (.array (.array .int))) (t' := (.array .int)) (by decide) (by decide))))))
  have c118 : Exa Z h114 r "com/example/opacheck/opacheck/PrecedenceTraversal" := (Exa.ext E114 (Exa.ext E109 (Exa.wr W106 c108)))
  refine Go.putF (pc' := 67) (host := "") (ty := (.array (.array .int))) C X114 (Or.inl (hw _ (List.mem_of_getElem? (i := 46) rfl))) Via.refl e114 c117 c118 (Or.inr ⟨(hw _ (List.mem_of_getElem? (i := 47) rfl)), rfl, rfl⟩) (hw _ (List.mem_of_getElem? (i := 18) rfl)) (by decide) rfl rfl d3_64 rfl ?_
  intro T116 h116 X116 e116 W116 F116
  have N116 := Fr.snoc X116 N106 hn
  refine Go.iconst (z := (0 : Int32)) (pc' := 68) C X116 d3_67 rfl rfl ?_
  refine Go.istore (Ls' := #[.val (.ref r), .val (.ref q), .val (.int (8 : Int32)), .val (.ref b109), .val (.int (0 : Int32)), .unset, .unset]) (pc' := 70) C X116 d3_68 rfl rfl ?_
  refine Go.iload (pc' := 72) C X116 d3_70 rfl rfl ?_
  refine Go.iloadN (pc' := 73) C X116 d3_72 rfl rfl ?_
  refine Go.icmpNo (pc' := 76) C X116 d3_73 (tlt (x := (0 : Int32)) (y := (8 : Int32)) (by decide)).2.1 rfl ?_
  refine Go.aloadN (pc' := 77) C X116 d3_76 rfl rfl rfl ?_
  refine Go.getF (pc' := 80) (host := "") C X116 (Or.inl (hw _ (List.mem_of_getElem? (i := 46) rfl))) Via.refl e116 F116 d3_77 rfl ?_
  intro T120 X120 e120
  refine Go.iload (pc' := 82) C X120 d3_80 rfl rfl ?_
  refine Go.iconst (z := (2 : Int32)) (pc' := 83) C X120 d3_82 rfl rfl ?_
  refine Go.aloadN (pc' := 84) C X120 d3_83 rfl rfl rfl ?_
  refine Go.iload (pc' := 86) C X120 d3_84 rfl rfl ?_
  have ne121 : b109 ≠ r := (Nat.ne_of_gt (Nat.lt_of_lt_of_le E0.lt (Nat.le_trans (Nat.le_trans (Nat.le_trans (Nat.le_refl _) K105.1) (Nat.le_of_eq W106.size.symm)) (Nat.le_of_eq g109.symm))))
  have c122 : AL Z h116 b109 k109 .int [(.int (0 : Int32)), (.int (0 : Int32)), (.int (0 : Int32)), (.int (0 : Int32)), (.int (0 : Int32)), (.int (0 : Int32)), (.int (0 : Int32)), (.int (0 : Int32))] := (AL.other W116 (AL.ext E114 A109) ne121)
  refine Go.ldI (i := 0) (v := (.int (0 : Int32))) (pc' := 87) C X120 e120 c122 (by decide) (by decide) rfl d3_86 rfl ?_
  refine Go.imul (pc' := 88) C X120 d3_87 rfl ?_
  rw [show ((2 : Int32) * (0 : Int32)) = (0 : Int32) from by decide]
  have O124 : Ext Z.heap h116 := (Ext.wr (Ext.trans O115 E114) W116 hn)
  refine Go.newP (aty := .int) (cap := 0) (vs := []) (ad := "[I") (pc' := 90) C X120 (by decide) (hw _ (List.mem_of_getElem? (i := 10) rfl)) e120 (by decide) (by decide) (by decide) (by decide) (by decide) rfl d3_88 rfl ?_
  intro T123 h123 b123 k123 X123 e123 g123 E123 A123 Ea123
  have n_b123 : Z.heap.size ≤ b123 := Nat.le_trans O124.1 (Nat.le_of_eq g123.symm)
  have z_b123 : h0.size ≤ b123 := Nat.le_trans (Nat.le_trans (Nat.le_trans (Nat.le_trans (Nat.le_trans (Nat.le_trans (Nat.le_refl _) K105.1) (Nat.le_of_eq W106.size.symm)) E109.1) E114.1) (Nat.le_of_eq W116.size.symm)) (Nat.le_of_eq g123.symm)
  have A123 : AL Z h123 b123 k123 .int [] := A123
  have ne125 : b114 ≠ r := (Nat.ne_of_gt (Nat.lt_of_lt_of_le E0.lt (Nat.le_trans (Nat.le_trans (Nat.le_trans (Nat.le_trans (Nat.le_refl _) K105.1) (Nat.le_of_eq W106.size.symm)) E109.1) (Nat.le_of_eq g114.symm))))
  have c126 : AL Z h123 b114 k114 (.array .int) [.null, .null, .null, .null, .null, .null, .null, .null] := (AL.ext E123 (AL.other W116 A114 ne125))
  refine Go.stR (i := 0) (vs' := [(.ref b123), .null, .null, .null, .null, .null, .null, .null]) (pc' := 91) C X123 e123 c126 (by decide) (by decide) (by simp) rfl (AL.stoA c126 O114v (Ins.self Ea123)) rfl d3_90 rfl ?_
  intro T127 h127 X127 e127 W127 A127
  have N127 := Fr.snoc X127 N116 n_b114
  refine Go.iinc (Ls' := #[.val (.ref r), .val (.ref q), .val (.int (8 : Int32)), .val (.ref b109), .val (.int ((0 : Int32) + (1 : Int32))), .unset, .unset]) (z := (1 : Int32)) (pc' := 94) C X127 d3_91 rfl rfl rfl rfl ?_
  rw [show ((0 : Int32) + (1 : Int32)) = (1 : Int32) from by decide]
  refine Go.goto (pc' := 70) C X127 d3_94 (by decide) (by decide) ?_
  refine Go.iload (pc' := 72) C X127 d3_70 rfl rfl ?_
  refine Go.iloadN (pc' := 73) C X127 d3_72 rfl rfl ?_
  refine Go.icmpNo (pc' := 76) C X127 d3_73 (tlt (x := (1 : Int32)) (y := (8 : Int32)) (by decide)).2.1 rfl ?_
  refine Go.aloadN (pc' := 77) C X127 d3_76 rfl rfl rfl ?_
  have c130 : Fld Z h127 r "com/example/opacheck/opacheck/PrecedenceTraversal" "ranges" "[[I" (.ref b114) := (Fld.other W127 (Fld.ext E123 F116) (Or.inl (Ne.symm ne125)))
  refine Go.getF (pc' := 80) (host := "") C X127 (Or.inl (hw _ (List.mem_of_getElem? (i := 46) rfl))) Via.refl e127 c130 d3_77 rfl ?_
  intro T129 X129 e129
  refine Go.iload (pc' := 82) C X129 d3_80 rfl rfl ?_
  refine Go.iconst (z := (2 : Int32)) (pc' := 83) C X129 d3_82 rfl rfl ?_
  refine Go.aloadN (pc' := 84) C X129 d3_83 rfl rfl rfl ?_
  refine Go.iload (pc' := 86) C X129 d3_84 rfl rfl ?_
  have ne131 : b109 ≠ b114 := Nat.ne_of_lt (Nat.lt_of_lt_of_le A109.lt (Nat.le_trans (Nat.le_refl _) (Nat.le_of_eq g114.symm)))
  have c132 : AL Z h127 b109 k109 .int [(.int (0 : Int32)), (.int (0 : Int32)), (.int (0 : Int32)), (.int (0 : Int32)), (.int (0 : Int32)), (.int (0 : Int32)), (.int (0 : Int32)), (.int (0 : Int32))] := (AL.other W127 (AL.ext E123 c122) ne131)
  refine Go.ldI (i := 1) (v := (.int (0 : Int32))) (pc' := 87) C X129 e129 c132 (by decide) (by decide) rfl d3_86 rfl ?_
  refine Go.imul (pc' := 88) C X129 d3_87 rfl ?_
  rw [show ((2 : Int32) * (0 : Int32)) = (0 : Int32) from by decide]
  have O134 : Ext Z.heap h127 := (Ext.wr (Ext.trans O124 E123) W127 n_b114)
  refine Go.newP (aty := .int) (cap := 0) (vs := []) (ad := "[I") (pc' := 90) C X129 (by decide) (hw _ (List.mem_of_getElem? (i := 10) rfl)) e129 (by decide) (by decide) (by decide) (by decide) (by decide) rfl d3_88 rfl ?_
  intro T133 h133 b133 k133 X133 e133 g133 E133 A133 Ea133
  have n_b133 : Z.heap.size ≤ b133 := Nat.le_trans O134.1 (Nat.le_of_eq g133.symm)
  have z_b133 : h0.size ≤ b133 := Nat.le_trans (Nat.le_trans (Nat.le_trans (Nat.le_trans (Nat.le_trans (Nat.le_trans (Nat.le_trans (Nat.le_trans (Nat.le_refl _) K105.1) (Nat.le_of_eq W106.size.symm)) E109.1) E114.1) (Nat.le_of_eq W116.size.symm)) E123.1) (Nat.le_of_eq W127.size.symm)) (Nat.le_of_eq g133.symm)
  have A133 : AL Z h133 b133 k133 .int [] := A133
  have c135 : AL Z h133 b114 k114 (.array .int) [(.ref b123), .null, .null, .null, .null, .null, .null, .null] := (AL.ext E133 A127)
  refine Go.stR (i := 1) (vs' := [(.ref b123), (.ref b133), .null, .null, .null, .null, .null, .null]) (pc' := 91) C X133 e133 c135 (by decide) (by decide) (by simp) rfl (AL.stoA c135 O114v (Ins.self Ea133)) rfl d3_90 rfl ?_
  intro T136 h136 X136 e136 W136 A136
  have N136 := Fr.snoc X136 N127 n_b114
  refine Go.iinc (Ls' := #[.val (.ref r), .val (.ref q), .val (.int (8 : Int32)), .val (.ref b109), .val (.int ((1 : Int32) + (1 : Int32))), .unset, .unset]) (z := (1 : Int32)) (pc' := 94) C X136 d3_91 rfl rfl rfl rfl ?_
  rw [show ((1 : Int32) + (1 : Int32)) = (2 : Int32) from by decide]
  refine Go.goto (pc' := 70) C X136 d3_94 (by decide) (by decide) ?_
  refine Go.iload (pc' := 72) C X136 d3_70 rfl rfl ?_
  refine Go.iloadN (pc' := 73) C X136 d3_72 rfl rfl ?_
  refine Go.icmpNo (pc' := 76) C X136 d3_73 (tlt (x := (2 : Int32)) (y := (8 : Int32)) (by decide)).2.1 rfl ?_
  refine Go.aloadN (pc' := 77) C X136 d3_76 rfl rfl rfl ?_
  have c139 : Fld Z h136 r "com/example/opacheck/opacheck/PrecedenceTraversal" "ranges" "[[I" (.ref b114) := (Fld.other W136 (Fld.ext E133 c130) (Or.inl (Ne.symm ne125)))
  refine Go.getF (pc' := 80) (host := "") C X136 (Or.inl (hw _ (List.mem_of_getElem? (i := 46) rfl))) Via.refl e136 c139 d3_77 rfl ?_
  intro T138 X138 e138
  refine Go.iload (pc' := 82) C X138 d3_80 rfl rfl ?_
  refine Go.iconst (z := (2 : Int32)) (pc' := 83) C X138 d3_82 rfl rfl ?_
  refine Go.aloadN (pc' := 84) C X138 d3_83 rfl rfl rfl ?_
  refine Go.iload (pc' := 86) C X138 d3_84 rfl rfl ?_
  have c140 : AL Z h136 b109 k109 .int [(.int (0 : Int32)), (.int (0 : Int32)), (.int (0 : Int32)), (.int (0 : Int32)), (.int (0 : Int32)), (.int (0 : Int32)), (.int (0 : Int32)), (.int (0 : Int32))] := (AL.other W136 (AL.ext E133 c132) ne131)
  refine Go.ldI (i := 2) (v := (.int (0 : Int32))) (pc' := 87) C X138 e138 c140 (by decide) (by decide) rfl d3_86 rfl ?_
  refine Go.imul (pc' := 88) C X138 d3_87 rfl ?_
  rw [show ((2 : Int32) * (0 : Int32)) = (0 : Int32) from by decide]
  have O142 : Ext Z.heap h136 := (Ext.wr (Ext.trans O134 E133) W136 n_b114)
  refine Go.newP (aty := .int) (cap := 0) (vs := []) (ad := "[I") (pc' := 90) C X138 (by decide) (hw _ (List.mem_of_getElem? (i := 10) rfl)) e138 (by decide) (by decide) (by decide) (by decide) (by decide) rfl d3_88 rfl ?_
  intro T141 h141 b141 k141 X141 e141 g141 E141 A141 Ea141
  have n_b141 : Z.heap.size ≤ b141 := Nat.le_trans O142.1 (Nat.le_of_eq g141.symm)
  have z_b141 : h0.size ≤ b141 := Nat.le_trans (Nat.le_trans (Nat.le_trans (Nat.le_trans (Nat.le_trans (Nat.le_trans (Nat.le_trans (Nat.le_trans (Nat.le_trans (Nat.le_trans (Nat.le_refl _) K105.1) (Nat.le_of_eq W106.size.symm)) E109.1) E114.1) (Nat.le_of_eq W116.size.symm)) E123.1) (Nat.le_of_eq W127.size.symm)) E133.1) (Nat.le_of_eq W136.size.symm)) (Nat.le_of_eq g141.symm)
  have A141 : AL Z h141 b141 k141 .int [] := A141
  have c143 : AL Z h141 b114 k114 (.array .int) [(.ref b123), (.ref b133), .null, .null, .null, .null, .null, .null] := (AL.ext E141 A136)
  refine Go.stR (i := 2) (vs' := [(.ref b123), (.ref b133), (.ref b141), .null, .null, .null, .null, .null]) (pc' := 91) C X141 e141 c143 (by decide) (by decide) (by simp) rfl (AL.stoA c143 O114v (Ins.self Ea141)) rfl d3_90 rfl ?_
  intro T144 h144 X144 e144 W144 A144
  have N144 := Fr.snoc X144 N136 n_b114
  refine Go.iinc (Ls' := #[.val (.ref r), .val (.ref q), .val (.int (8 : Int32)), .val (.ref b109), .val (.int ((2 : Int32) + (1 : Int32))), .unset, .unset]) (z := (1 : Int32)) (pc' := 94) C X144 d3_91 rfl rfl rfl rfl ?_
  rw [show ((2 : Int32) + (1 : Int32)) = (3 : Int32) from by decide]
  refine Go.goto (pc' := 70) C X144 d3_94 (by decide) (by decide) ?_
  refine Go.iload (pc' := 72) C X144 d3_70 rfl rfl ?_
  refine Go.iloadN (pc' := 73) C X144 d3_72 rfl rfl ?_
  refine Go.icmpNo (pc' := 76) C X144 d3_73 (tlt (x := (3 : Int32)) (y := (8 : Int32)) (by decide)).2.1 rfl ?_
  refine Go.aloadN (pc' := 77) C X144 d3_76 rfl rfl rfl ?_
  have c147 : Fld Z h144 r "com/example/opacheck/opacheck/PrecedenceTraversal" "ranges" "[[I" (.ref b114) := (Fld.other W144 (Fld.ext E141 c139) (Or.inl (Ne.symm ne125)))
  refine Go.getF (pc' := 80) (host := "") C X144 (Or.inl (hw _ (List.mem_of_getElem? (i := 46) rfl))) Via.refl e144 c147 d3_77 rfl ?_
  intro T146 X146 e146
  refine Go.iload (pc' := 82) C X146 d3_80 rfl rfl ?_
  refine Go.iconst (z := (2 : Int32)) (pc' := 83) C X146 d3_82 rfl rfl ?_
  refine Go.aloadN (pc' := 84) C X146 d3_83 rfl rfl rfl ?_
  refine Go.iload (pc' := 86) C X146 d3_84 rfl rfl ?_
  have c148 : AL Z h144 b109 k109 .int [(.int (0 : Int32)), (.int (0 : Int32)), (.int (0 : Int32)), (.int (0 : Int32)), (.int (0 : Int32)), (.int (0 : Int32)), (.int (0 : Int32)), (.int (0 : Int32))] := (AL.other W144 (AL.ext E141 c140) ne131)
  refine Go.ldI (i := 3) (v := (.int (0 : Int32))) (pc' := 87) C X146 e146 c148 (by decide) (by decide) rfl d3_86 rfl ?_
  refine Go.imul (pc' := 88) C X146 d3_87 rfl ?_
  rw [show ((2 : Int32) * (0 : Int32)) = (0 : Int32) from by decide]
  have O150 : Ext Z.heap h144 := (Ext.wr (Ext.trans O142 E141) W144 n_b114)
  refine Go.newP (aty := .int) (cap := 0) (vs := []) (ad := "[I") (pc' := 90) C X146 (by decide) (hw _ (List.mem_of_getElem? (i := 10) rfl)) e146 (by decide) (by decide) (by decide) (by decide) (by decide) rfl d3_88 rfl ?_
  intro T149 h149 b149 k149 X149 e149 g149 E149 A149 Ea149
  have n_b149 : Z.heap.size ≤ b149 := Nat.le_trans O150.1 (Nat.le_of_eq g149.symm)
  have z_b149 : h0.size ≤ b149 := Nat.le_trans (Nat.le_trans (Nat.le_trans (Nat.le_trans (Nat.le_trans (Nat.le_trans (Nat.le_trans (Nat.le_trans (Nat.le_trans (Nat.le_trans (Nat.le_trans (Nat.le_trans (Nat.le_refl _) K105.1) (Nat.le_of_eq W106.size.symm)) E109.1) E114.1) (Nat.le_of_eq W116.size.symm)) E123.1) (Nat.le_of_eq W127.size.symm)) E133.1) (Nat.le_of_eq W136.size.symm)) E141.1) (Nat.le_of_eq W144.size.symm)) (Nat.le_of_eq g149.symm)
  have A149 : AL Z h149 b149 k149 .int [] := A149
  have c151 : AL Z h149 b114 k114 (.array .int) [(.ref b123), (.ref b133), (.ref b141), .null, .null, .null, .null, .null] := (AL.ext E149 A144)
  refine Go.stR (i := 3) (vs' := [(.ref b123), (.ref b133), (.ref b141), (.ref b149), .null, .null, .null, .null]) (pc' := 91) C X149 e149 c151 (by decide) (by decide) (by simp) rfl (AL.stoA c151 O114v (Ins.self Ea149)) rfl d3_90 rfl ?_
  intro T152 h152 X152 e152 W152 A152
  have N152 := Fr.snoc X152 N144 n_b114
  refine Go.iinc (Ls' := #[.val (.ref r), .val (.ref q), .val (.int (8 : Int32)), .val (.ref b109), .val (.int ((3 : Int32) + (1 : Int32))), .unset, .unset]) (z := (1 : Int32)) (pc' := 94) C X152 d3_91 rfl rfl rfl rfl ?_
  rw [show ((3 : Int32) + (1 : Int32)) = (4 : Int32) from by decide]
  refine Go.goto (pc' := 70) C X152 d3_94 (by decide) (by decide) ?_
  refine Go.iload (pc' := 72) C X152 d3_70 rfl rfl ?_
  refine Go.iloadN (pc' := 73) C X152 d3_72 rfl rfl ?_
  refine Go.icmpNo (pc' := 76) C X152 d3_73 (tlt (x := (4 : Int32)) (y := (8 : Int32)) (by decide)).2.1 rfl ?_
  refine Go.aloadN (pc' := 77) C X152 d3_76 rfl rfl rfl ?_
  have c155 : Fld Z h152 r "com/example/opacheck/opacheck/PrecedenceTraversal" "ranges" "[[I" (.ref b114) := (Fld.other W152 (Fld.ext E149 c147) (Or.inl (Ne.symm ne125)))
  refine Go.getF (pc' := 80) (host := "") C X152 (Or.inl (hw _ (List.mem_of_getElem? (i := 46) rfl))) Via.refl e152 c155 d3_77 rfl ?_
  intro T154 X154 e154
  refine Go.iload (pc' := 82) C X154 d3_80 rfl rfl ?_
  refine Go.iconst (z := (2 : Int32)) (pc' := 83) C X154 d3_82 rfl rfl ?_
  refine Go.aloadN (pc' := 84) C X154 d3_83 rfl rfl rfl ?_
  refine Go.iload (pc' := 86) C X154 d3_84 rfl rfl ?_
  have c156 : AL Z h152 b109 k109 .int [(.int (0 : Int32)), (.int (0 : Int32)), (.int (0 : Int32)), (.int (0 : Int32)), (.int (0 : Int32)), (.int (0 : Int32)), (.int (0 : Int32)), (.int (0 : Int32))] := (AL.other W152 (AL.ext E149 c148) ne131)
  refine Go.ldI (i := 4) (v := (.int (0 : Int32))) (pc' := 87) C X154 e154 c156 (by decide) (by decide) rfl d3_86 rfl ?_
  refine Go.imul (pc' := 88) C X154 d3_87 rfl ?_
  rw [show ((2 : Int32) * (0 : Int32)) = (0 : Int32) from by decide]
  have O158 : Ext Z.heap h152 := (Ext.wr (Ext.trans O150 E149) W152 n_b114)
  refine Go.newP (aty := .int) (cap := 0) (vs := []) (ad := "[I") (pc' := 90) C X154 (by decide) (hw _ (List.mem_of_getElem? (i := 10) rfl)) e154 (by decide) (by decide) (by decide) (by decide) (by decide) rfl d3_88 rfl ?_
  intro T157 h157 b157 k157 X157 e157 g157 E157 A157 Ea157
  have n_b157 : Z.heap.size ≤ b157 := Nat.le_trans O158.1 (Nat.le_of_eq g157.symm)
  have z_b157 : h0.size ≤ b157 := Nat.le_trans (Nat.le_trans (Nat.le_trans (Nat.le_trans (Nat.le_trans (Nat.le_trans (Nat.le_trans (Nat.le_trans (Nat.le_trans (Nat.le_trans (Nat.le_trans (Nat.le_trans (Nat.le_trans (Nat.le_trans (Nat.le_refl _) K105.1) (Nat.le_of_eq W106.size.symm)) E109.1) E114.1) (Nat.le_of_eq W116.size.symm)) E123.1) (Nat.le_of_eq W127.size.symm)) E133.1) (Nat.le_of_eq W136.size.symm)) E141.1) (Nat.le_of_eq W144.size.symm)) E149.1) (Nat.le_of_eq W152.size.symm)) (Nat.le_of_eq g157.symm)
  have A157 : AL Z h157 b157 k157 .int [] := A157
  have c159 : AL Z h157 b114 k114 (.array .int) [(.ref b123), (.ref b133), (.ref b141), (.ref b149), .null, .null, .null, .null] := (AL.ext E157 A152)
  refine Go.stR (i := 4) (vs' := [(.ref b123), (.ref b133), (.ref b141), (.ref b149), (.ref b157), .null, .null, .null]) (pc' := 91) C X157 e157 c159 (by decide) (by decide) (by simp) rfl (AL.stoA c159 O114v (Ins.self Ea157)) rfl d3_90 rfl ?_
  intro T160 h160 X160 e160 W160 A160
  have N160 := Fr.snoc X160 N152 n_b114
  refine Go.iinc (Ls' := #[.val (.ref r), .val (.ref q), .val (.int (8 : Int32)), .val (.ref b109), .val (.int ((4 : Int32) + (1 : Int32))), .unset, .unset]) (z := (1 : Int32)) (pc' := 94) C X160 d3_91 rfl rfl rfl rfl ?_
  rw [show ((4 : Int32) + (1 : Int32)) = (5 : Int32) from by decide]
  refine Go.goto (pc' := 70) C X160 d3_94 (by decide) (by decide) ?_
  refine Go.iload (pc' := 72) C X160 d3_70 rfl rfl ?_
  refine Go.iloadN (pc' := 73) C X160 d3_72 rfl rfl ?_
  refine Go.icmpNo (pc' := 76) C X160 d3_73 (tlt (x := (5 : Int32)) (y := (8 : Int32)) (by decide)).2.1 rfl ?_
  refine Go.aloadN (pc' := 77) C X160 d3_76 rfl rfl rfl ?_
  have c163 : Fld Z h160 r "com/example/opacheck/opacheck/PrecedenceTraversal" "ranges" "[[I" (.ref b114) := (Fld.other W160 (Fld.ext E157 c155) (Or.inl (Ne.symm ne125)))
  refine Go.getF (pc' := 80) (host := "") C X160 (Or.inl (hw _ (List.mem_of_getElem? (i := 46) rfl))) Via.refl e160 c163 d3_77 rfl ?_
  intro T162 X162 e162
  refine Go.iload (pc' := 82) C X162 d3_80 rfl rfl ?_
  refine Go.iconst (z := (2 : Int32)) (pc' := 83) C X162 d3_82 rfl rfl ?_
  refine Go.aloadN (pc' := 84) C X162 d3_83 rfl rfl rfl ?_
  refine Go.iload (pc' := 86) C X162 d3_84 rfl rfl ?_
  have c164 : AL Z h160 b109 k109 .int [(.int (0 : Int32)), (.int (0 : Int32)), (.int (0 : Int32)), (.int (0 : Int32)), (.int (0 : Int32)), (.int (0 : Int32)), (.int (0 : Int32)), (.int (0 : Int32))] := (AL.other W160 (AL.ext E157 c156) ne131)
  refine Go.ldI (i := 5) (v := (.int (0 : Int32))) (pc' := 87) C X162 e162 c164 (by decide) (by decide) rfl d3_86 rfl ?_
  refine Go.imul (pc' := 88) C X162 d3_87 rfl ?_
  rw [show ((2 : Int32) * (0 : Int32)) = (0 : Int32) from by decide]
  have O166 : Ext Z.heap h160 := (Ext.wr (Ext.trans O158 E157) W160 n_b114)
  refine Go.newP (aty := .int) (cap := 0) (vs := []) (ad := "[I") (pc' := 90) C X162 (by decide) (hw _ (List.mem_of_getElem? (i := 10) rfl)) e162 (by decide) (by decide) (by decide) (by decide) (by decide) rfl d3_88 rfl ?_
  intro T165 h165 b165 k165 X165 e165 g165 E165 A165 Ea165
  have n_b165 : Z.heap.size ≤ b165 := Nat.le_trans O166.1 (Nat.le_of_eq g165.symm)
  have z_b165 : h0.size ≤ b165 := Nat.le_trans (Nat.le_trans (Nat.le_trans (Nat.le_trans (Nat.le_trans (Nat.le_trans (Nat.le_trans (Nat.le_trans (Nat.le_trans (Nat.le_trans (Nat.le_trans (Nat.le_trans (Nat.le_trans (Nat.le_trans (Nat.le_trans (Nat.le_trans (Nat.le_refl _) K105.1) (Nat.le_of_eq W106.size.symm)) E109.1) E114.1) (Nat.le_of_eq W116.size.symm)) E123.1) (Nat.le_of_eq W127.size.symm)) E133.1) (Nat.le_of_eq W136.size.symm)) E141.1) (Nat.le_of_eq W144.size.symm)) E149.1) (Nat.le_of_eq W152.size.symm)) E157.1) (Nat.le_of_eq W160.size.symm)) (Nat.le_of_eq g165.symm)
  have A165 : AL Z h165 b165 k165 .int [] := A165
  have c167 : AL Z h165 b114 k114 (.array .int) [(.ref b123), (.ref b133), (.ref b141), (.ref b149), (.ref b157), .null, .null, .null] := (AL.ext E165 A160)
  refine Go.stR (i := 5) (vs' := [(.ref b123), (.ref b133), (.ref b141), (.ref b149), (.ref b157), (.ref b165), .null, .null]) (pc' := 91) C X165 e165 c167 (by decide) (by decide) (by simp) rfl (AL.stoA c167 O114v (Ins.self Ea165)) rfl d3_90 rfl ?_
  intro T168 h168 X168 e168 W168 A168
  have N168 := Fr.snoc X168 N160 n_b114
  refine Go.iinc (Ls' := #[.val (.ref r), .val (.ref q), .val (.int (8 : Int32)), .val (.ref b109), .val (.int ((5 : Int32) + (1 : Int32))), .unset, .unset]) (z := (1 : Int32)) (pc' := 94) C X168 d3_91 rfl rfl rfl rfl ?_
  rw [show ((5 : Int32) + (1 : Int32)) = (6 : Int32) from by decide]
  refine Go.goto (pc' := 70) C X168 d3_94 (by decide) (by decide) ?_
  refine Go.iload (pc' := 72) C X168 d3_70 rfl rfl ?_
  refine Go.iloadN (pc' := 73) C X168 d3_72 rfl rfl ?_
  refine Go.icmpNo (pc' := 76) C X168 d3_73 (tlt (x := (6 : Int32)) (y := (8 : Int32)) (by decide)).2.1 rfl ?_
  refine Go.aloadN (pc' := 77) C X168 d3_76 rfl rfl rfl ?_
  have c171 : Fld Z h168 r "com/example/opacheck/opacheck/PrecedenceTraversal" "ranges" "[[I" (.ref b114) := (Fld.other W168 (Fld.ext E165 c163) (Or.inl (Ne.symm ne125)))
  refine Go.getF (pc' := 80) (host := "") C X168 (Or.inl (hw _ (List.mem_of_getElem? (i := 46) rfl))) Via.refl e168 c171 d3_77 rfl ?_
  intro T170 X170 e170
  refine Go.iload (pc' := 82) C X170 d3_80 rfl rfl ?_
  refine Go.iconst (z := (2 : Int32)) (pc' := 83) C X170 d3_82 rfl rfl ?_
  refine Go.aloadN (pc' := 84) C X170 d3_83 rfl rfl rfl ?_
  refine Go.iload (pc' := 86) C X170 d3_84 rfl rfl ?_
  have c172 : AL Z h168 b109 k109 .int [(.int (0 : Int32)), (.int (0 : Int32)), (.int (0 : Int32)), (.int (0 : Int32)), (.int (0 : Int32)), (.int (0 : Int32)), (.int (0 : Int32)), (.int (0 : Int32))] := (AL.other W168 (AL.ext E165 c164) ne131)
  refine Go.ldI (i := 6) (v := (.int (0 : Int32))) (pc' := 87) C X170 e170 c172 (by decide) (by decide) rfl d3_86 rfl ?_
  refine Go.imul (pc' := 88) C X170 d3_87 rfl ?_
  rw [show ((2 : Int32) * (0 : Int32)) = (0 : Int32) from by decide]
  have O174 : Ext Z.heap h168 := (Ext.wr (Ext.trans O166 E165) W168 n_b114)
  refine Go.newP (aty := .int) (cap := 0) (vs := []) (ad := "[I") (pc' := 90) C X170 (by decide) (hw _ (List.mem_of_getElem? (i := 10) rfl)) e170 (by decide) (by decide) (by decide) (by decide) (by decide) rfl d3_88 rfl ?_
  intro T173 h173 b173 k173 X173 e173 g173 E173 A173 Ea173
  have n_b173 : Z.heap.size ≤ b173 := Nat.le_trans O174.1 (Nat.le_of_eq g173.symm)
  have z_b173 : h0.size ≤ b173 := Nat.le_trans (Nat.le_trans (Nat.le_trans (Nat.le_trans (Nat.le_trans (Nat.le_trans (Nat.le_trans (Nat.le_trans (Nat.le_trans (Nat.le_trans (Nat.le_trans (Nat.le_trans (Nat.le_trans (Nat.le_trans (Nat.le_trans (Nat.le_trans (Nat.le_trans (Nat.le_trans (Nat.le_refl _) K105.1) (Nat.le_of_eq W106.size.symm)) E109.1) E114.1) (Nat.le_of_eq W116.size.symm)) E123.1) (Nat.le_of_eq W127.size.symm)) E133.1) (Nat.le_of_eq W136.size.symm)) E141.1) (Nat.le_of_eq W144.size.symm)) E149.1) (Nat.le_of_eq W152.size.symm)) E157.1) (Nat.le_of_eq W160.size.symm)) E165.1) (Nat.le_of_eq W168.size.symm)) (Nat.le_of_eq g173.symm)
  have A173 : AL Z h173 b173 k173 .int [] := A173
  have c175 : AL Z h173 b114 k114 (.array .int) [(.ref b123), (.ref b133), (.ref b141), (.ref b149), (.ref b157), (.ref b165), .null, .null] := (AL.ext E173 A168)
  refine Go.stR (i := 6) (vs' := [(.ref b123), (.ref b133), (.ref b141), (.ref b149), (.ref b157), (.ref b165), (.ref b173), .null]) (pc' := 91) C X173 e173 c175 (by decide) (by decide) (by simp) rfl (AL.stoA c175 O114v (Ins.self Ea173)) rfl d3_90 rfl ?_
  intro T176 h176 X176 e176 W176 A176
  have N176 := Fr.snoc X176 N168 n_b114
  refine Go.iinc (Ls' := #[.val (.ref r), .val (.ref q), .val (.int (8 : Int32)), .val (.ref b109), .val (.int ((6 : Int32) + (1 : Int32))), .unset, .unset]) (z := (1 : Int32)) (pc' := 94) C X176 d3_91 rfl rfl rfl rfl ?_
  rw [show ((6 : Int32) + (1 : Int32)) = (7 : Int32) from by decide]
  refine Go.goto (pc' := 70) C X176 d3_94 (by decide) (by decide) ?_
  refine Go.iload (pc' := 72) C X176 d3_70 rfl rfl ?_
  refine Go.iloadN (pc' := 73) C X176 d3_72 rfl rfl ?_
  refine Go.icmpNo (pc' := 76) C X176 d3_73 (tlt (x := (7 : Int32)) (y := (8 : Int32)) (by decide)).2.1 rfl ?_
  refine Go.aloadN (pc' := 77) C X176 d3_76 rfl rfl rfl ?_
  have c179 : Fld Z h176 r "com/example/opacheck/opacheck/PrecedenceTraversal" "ranges" "[[I" (.ref b114) := (Fld.other W176 (Fld.ext E173 c171) (Or.inl (Ne.symm ne125)))
  refine Go.getF (pc' := 80) (host := "") C X176 (Or.inl (hw _ (List.mem_of_getElem? (i := 46) rfl))) Via.refl e176 c179 d3_77 rfl ?_
  intro T178 X178 e178
  refine Go.iload (pc' := 82) C X178 d3_80 rfl rfl ?_
  refine Go.iconst (z := (2 : Int32)) (pc' := 83) C X178 d3_82 rfl rfl ?_
  refine Go.aloadN (pc' := 84) C X178 d3_83 rfl rfl rfl ?_
  refine Go.iload (pc' := 86) C X178 d3_84 rfl rfl ?_
  have c180 : AL Z h176 b109 k109 .int [(.int (0 : Int32)), (.int (0 : Int32)), (.int (0 : Int32)), (.int (0 : Int32)), (.int (0 : Int32)), (.int (0 : Int32)), (.int (0 : Int32)), (.int (0 : Int32))] := (AL.other W176 (AL.ext E173 c172) ne131)
  refine Go.ldI (i := 7) (v := (.int (0 : Int32))) (pc' := 87) C X178 e178 c180 (by decide) (by decide) rfl d3_86 rfl ?_
  refine Go.imul (pc' := 88) C X178 d3_87 rfl ?_
  rw [show ((2 : Int32) * (0 : Int32)) = (0 : Int32) from by decide]
  have O182 : Ext Z.heap h176 := (Ext.wr (Ext.trans O174 E173) W176 n_b114)
  refine Go.newP (aty := .int) (cap := 0) (vs := []) (ad := "[I") (pc' := 90) C X178 (by decide) (hw _ (List.mem_of_getElem? (i := 10) rfl)) e178 (by decide) (by decide) (by decide) (by decide) (by decide) rfl d3_88 rfl ?_
  intro T181 h181 b181 k181 X181 e181 g181 E181 A181 Ea181
  have n_b181 : Z.heap.size ≤ b181 := Nat.le_trans O182.1 (Nat.le_of_eq g181.symm)
  have z_b181 : h0.size ≤ b181 := Nat.le_trans (Nat.le_trans (Nat.le_trans (Nat.le_trans (Nat.le_trans (Nat.le_trans (Nat.le_trans (Nat.le_trans (Nat.le_trans (Nat.le_trans (Nat.le_trans (Nat.le_trans (Nat.le_trans (Nat.le_trans (Nat.le_trans (Nat.le_trans (Nat.le_trans (Nat.le_trans (Nat.le_trans (Nat.le_trans (Nat.le_refl _) K105.1) (Nat.le_of_eq W106.size.symm)) E109.1) E114.1) (Nat.le_of_eq W116.size.symm)) E123.1) (Nat.le_of_eq W127.size.symm)) E133.1) (Nat.le_of_eq W136.size.symm)) E141.1) (Nat.le_of_eq W144.size.symm)) E149.1) (Nat.le_of_eq W152.size.symm)) E157.1) (Nat.le_of_eq W160.size.symm)) E165.1) (Nat.le_of_eq W168.size.symm)) E173.1) (Nat.le_of_eq W176.size.symm)) (Nat.le_of_eq g181.symm)
  have A181 : AL Z h181 b181 k181 .int [] := A181
  have c183 : AL Z h181 b114 k114 (.array .int) [(.ref b123), (.ref b133), (.ref b141), (.ref b149), (.ref b157), (.ref b165), (.ref b173), .null] := (AL.ext E181 A176)
  refine Go.stR (i := 7) (vs' := [(.ref b123), (.ref b133), (.ref b141), (.ref b149), (.ref b157), (.ref b165), (.ref b173), (.ref b181)]) (pc' := 91) C X181 e181 c183 (by decide) (by decide) (by simp) rfl (AL.stoA c183 O114v (Ins.self Ea181)) rfl d3_90 rfl ?_
  intro T184 h184 X184 e184 W184 A184
  have N184 := Fr.snoc X184 N176 n_b114
  refine Go.iinc (Ls' := #[.val (.ref r), .val (.ref q), .val (.int (8 : Int32)), .val (.ref b109), .val (.int ((7 : Int32) + (1 : Int32))), .unset, .unset]) (z := (1 : Int32)) (pc' := 94) C X184 d3_91 rfl rfl rfl rfl ?_
  rw [show ((7 : Int32) + (1 : Int32)) = (8 : Int32) from by decide]
  refine Go.goto (pc' := 70) C X184 d3_94 (by decide) (by decide) ?_
  refine Go.iload (pc' := 72) C X184 d3_70 rfl rfl ?_
  refine Go.iloadN (pc' := 73) C X184 d3_72 rfl rfl ?_
  refine Go.icmpYes (pc' := 97) C X184 d3_73 (flt (x := (8 : Int32)) (y := (8 : Int32)) (by decide)).2.1 (by decide) (by decide) ?_
  refine Go.iloadN (pc' := 98) C X184 d3_97 rfl rfl ?_
  have O187 : Ext Z.heap h184 := (Ext.wr (Ext.trans O182 E181) W184 n_b114)
  refine Go.newP (aty := .int) (cap := 8) (vs := [(.int (0 : Int32)), (.int (0 : Int32)), (.int (0 : Int32)), (.int (0 : Int32)), (.int (0 : Int32)), (.int (0 : Int32)), (.int (0 : Int32)), (.int (0 : Int32))]) (ad := "[I") (pc' := 100) C X184 (by decide) (hw _ (List.mem_of_getElem? (i := 10) rfl)) e184 (by decide) (by decide) (by decide) (by decide) (by decide) rfl d3_98 rfl ?_
  intro T186 h186 b186 k186 X186 e186 g186 E186 A186 Ea186
  have n_b186 : Z.heap.size ≤ b186 := Nat.le_trans O187.1 (Nat.le_of_eq g186.symm)
  have z_b186 : h0.size ≤ b186 := Nat.le_trans (Nat.le_trans (Nat.le_trans (Nat.le_trans (Nat.le_trans (Nat.le_trans (Nat.le_trans (Nat.le_trans (Nat.le_trans (Nat.le_trans (Nat.le_trans (Nat.le_trans (Nat.le_trans (Nat.le_trans (Nat.le_trans (Nat.le_trans (Nat.le_trans (Nat.le_trans (Nat.le_trans (Nat.le_trans (Nat.le_trans (Nat.le_trans (Nat.le_refl _) K105.1) (Nat.le_of_eq W106.size.symm)) E109.1) E114.1) (Nat.le_of_eq W116.size.symm)) E123.1) (Nat.le_of_eq W127.size.symm)) E133.1) (Nat.le_of_eq W136.size.symm)) E141.1) (Nat.le_of_eq W144.size.symm)) E149.1) (Nat.le_of_eq W152.size.symm)) E157.1) (Nat.le_of_eq W160.size.symm)) E165.1) (Nat.le_of_eq W168.size.symm)) E173.1) (Nat.le_of_eq W176.size.symm)) E181.1) (Nat.le_of_eq W184.size.symm)) (Nat.le_of_eq g186.symm)
  have A186 : AL Z h186 b186 k186 .int [(.int (0 : Int32)), (.int (0 : Int32)), (.int (0 : Int32)), (.int (0 : Int32)), (.int (0 : Int32)), (.int (0 : Int32)), (.int (0 : Int32)), (.int (0 : Int32))] := A186
  refine Go.astore (Ls' := #[.val (.ref r), .val (.ref q), .val (.int (8 : Int32)), .val (.ref b109), .val (.ref b186), .unset, .unset]) (pc' := 102) C X186 d3_100 rfl rfl rfl ?_
  refine Go.iconst (z := (0 : Int32)) (pc' := 103) C X186 d3_102 rfl rfl ?_
  refine Go.istore (Ls' := #[.val (.ref r), .val (.ref q), .val (.int (8 : Int32)), .val (.ref b109), .val (.ref b186), .val (.int (0 : Int32)), .unset]) (pc' := 105) C X186 d3_103 rfl rfl ?_
  refine Go.iload (pc' := 107) C X186 d3_105 rfl rfl ?_
  refine Go.aloadN (pc' := 108) C X186 d3_107 rfl rfl rfl ?_
  have ne189 : q ≠ b114 := Nat.ne_of_lt (Nat.lt_of_lt_of_le Gm.lt (Nat.le_trans (Nat.le_trans (Nat.le_trans (Nat.le_trans (Nat.le_refl _) K105.1) (Nat.le_of_eq W106.size.symm)) E109.1) (Nat.le_of_eq g114.symm)))
  have c190 : Fld Z h186 q "com/example/opacheck/opacheck/PrecedenceTraversal$Neighbours" "rangesSize" "I" (.int (0 : Int32)) := (Fld.ext E186 (Fld.other W184 (Fld.ext E181 (Fld.other W176 (Fld.ext E173 (Fld.other W168 (Fld.ext E165 (Fld.other W160 (Fld.ext E157 (Fld.other W152 (Fld.ext E149 (Fld.other W144 (Fld.ext E141 (Fld.other W136 (Fld.ext E133 (Fld.other W127 (Fld.ext E123 (Fld.other W116 (Fld.ext E114 c112) (Or.inl (Ne.symm hne)))) (Or.inl ne189))) (Or.inl ne189))) (Or.inl ne189))) (Or.inl ne189))) (Or.inl ne189))) (Or.inl ne189))) (Or.inl ne189))) (Or.inl ne189)))
  refine Go.getFR (pc' := 111) C X186 (hw _ (List.mem_of_getElem? (i := 42) rfl)) e186 c190 d3_108 rfl ?_
  refine Go.icmpYes (pc' := 183) C X186 d3_111 (flt (x := (0 : Int32)) (y := (0 : Int32)) (by decide)).2.1 (by decide) (by decide) ?_
  refine Go.aloadN (pc' := 184) C X186 d3_183 rfl rfl rfl ?_
  refine Go.iloadN (pc' := 185) C X186 d3_184 rfl rfl ?_
  have O193 : Ext Z.heap h186 := (Ext.trans O187 E186)
  refine Go.newP (aty := .int) (cap := 8) (vs := [(.int (0 : Int32)), (.int (0 : Int32)), (.int (0 : Int32)), (.int (0 : Int32)), (.int (0 : Int32)), (.int (0 : Int32)), (.int (0 : Int32)), (.int (0 : Int32))]) (ad := "[I") (pc' := 187) C X186 (by decide) (hw _ (List.mem_of_getElem? (i := 10) rfl)) e186 (by decide) (by decide) (by decide) (by decide) (by decide) rfl d3_185 rfl ?_
  intro T192 h192 b192 k192 X192 e192 g192 E192 A192 Ea192
  have n_b192 : Z.heap.size ≤ b192 := Nat.le_trans O193.1 (Nat.le_of_eq g192.symm)
  have z_b192 : h0.size ≤ b192 := Nat.le_trans (Nat.le_trans (Nat.le_trans (Nat.le_trans (Nat.le_trans (Nat.le_trans (Nat.le_trans (Nat.le_trans (Nat.le_trans (Nat.le_trans (Nat.le_trans (Nat.le_trans (Nat.le_trans (Nat.le_trans (Nat.le_trans (Nat.le_trans (Nat.le_trans (Nat.le_trans (Nat.le_trans (Nat.le_trans (Nat.le_trans (Nat.le_trans (Nat.le_trans (Nat.le_refl _) K105.1) (Nat.le_of_eq W106.size.symm)) E109.1) E114.1) (Nat.le_of_eq W116.size.symm)) E123.1) (Nat.le_of_eq W127.size.symm)) E133.1) (Nat.le_of_eq W136.size.symm)) E141.1) (Nat.le_of_eq W144.size.symm)) E149.1) (Nat.le_of_eq W152.size.symm)) E157.1) (Nat.le_of_eq W160.size.symm)) E165.1) (Nat.le_of_eq W168.size.symm)) E173.1) (Nat.le_of_eq W176.size.symm)) E181.1) (Nat.le_of_eq W184.size.symm)) E186.1) (Nat.le_of_eq g192.symm)
  have A192 : AL Z h192 b192 k192 .int [(.int (0 : Int32)), (.int (0 : Int32)), (.int (0 : Int32)), (.int (0 : Int32)), (.int (0 : Int32)), (.int (0 : Int32)), (.int (0 : Int32)), (.int (0 : Int32))] := A192
  have c195 : Fld Z h192 r "com/example/opacheck/opacheck/PrecedenceTraversal" "visitedIn" "[I" .null := (Fld.ext E192 (Fld.ext E186 (Fld.other W184 (Fld.ext E181 (Fld.other W176 (Fld.ext E173 (Fld.other W168 (Fld.ext E165 (Fld.other W160 (Fld.ext E157 (Fld.other W152 (Fld.ext E149 (Fld.other W144 (Fld.ext E141 (Fld.other W136 (Fld.ext E133 (Fld.other W127 (Fld.ext E123 (Fld.other W116 (Fld.ext E114 (Fld.ext E109 (Fld.other W106 (Fld.keep FvisitedIn K105 nin0) (Or.inr (slot_ne (Or.inr (hw _ (List.mem_of_getElem? (i := 50) rfl))) (Or.inr (hw _ (List.mem_of_getElem? (i := 41) rfl))) (by decide) (t := (.array .int)) (t' := (.array .int)) (by decide) (by decide)))))) (Or.inr (slot_ne (Or.inr (hw _ (List.mem_of_getElem? (i := 50) rfl))) (Or.inr (hw _ (List.mem_of_getElem? (i := 47) rfl))) (by decide) (t := (.array .int)) (t' := (.array (.array .int))) (by decide) (by decide))))) (Or.inl (Ne.symm ne125)))) (Or.inl (Ne.symm ne125)))) (Or.inl (Ne.symm ne125)))) (Or.inl (Ne.symm ne125)))) (Or.inl (Ne.symm ne125)))) (Or.inl (Ne.symm ne125)))) (Or.inl (Ne.symm ne125)))) (Or.inl (Ne.symm ne125)))))
  have c196 : Exa Z h192 r "com/example/opacheck/opacheck/PrecedenceTraversal" := (Exa.ext E192 (Exa.ext E186 (Exa.wr W184 (Exa.ext E181 (Exa.wr W176 (Exa.ext E173 (Exa.wr W168 (Exa.ext E165 (Exa.wr W160 (Exa.ext E157 (Exa.wr W152 (Exa.ext E149 (Exa.wr W144 (Exa.ext E141 (Exa.wr W136 (Exa.ext E133 (Exa.wr W127 (Exa.ext E123 (Exa.wr W116 c118)))))))))))))))))))
  refine Go.putF (pc' := 190) (host := "") (ty := (.array .int)) C X192 (Or.inl (hw _ (List.mem_of_getElem? (i := 49) rfl))) Via.refl e192 c195 c196 (Or.inr ⟨(hw _ (List.mem_of_getElem? (i := 50) rfl)), rfl, rfl⟩) (hw _ (List.mem_of_getElem? (i := 18) rfl)) (by decide) rfl rfl d3_187 rfl ?_
  intro T194 h194 X194 e194 W194 F194
  have N194 := Fr.snoc X194 N184 hn
  refine Go.aloadN (pc' := 191) C X194 d3_190 rfl rfl rfl ?_
  refine Go.iloadN (pc' := 192) C X194 d3_191 rfl rfl ?_
  have O198 : Ext Z.heap h194 := (Ext.wr (Ext.trans O193 E192) W194 hn)
  refine Go.newP (aty := .int) (cap := 8) (vs := [(.int (0 : Int32)), (.int (0 : Int32)), (.int (0 : Int32)), (.int (0 : Int32)), (.int (0 : Int32)), (.int (0 : Int32)), (.int (0 : Int32)), (.int (0 : Int32))]) (ad := "[I") (pc' := 194) C X194 (by decide) (hw _ (List.mem_of_getElem? (i := 10) rfl)) e194 (by decide) (by decide) (by decide) (by decide) (by decide) rfl d3_192 rfl ?_
  intro T197 h197 b197 k197 X197 e197 g197 E197 A197 Ea197
  have n_b197 : Z.heap.size ≤ b197 := Nat.le_trans O198.1 (Nat.le_of_eq g197.symm)
  have z_b197 : h0.size ≤ b197 := Nat.le_trans (Nat.le_trans (Nat.le_trans (Nat.le_trans (Nat.le_trans (Nat.le_trans (Nat.le_trans (Nat.le_trans (Nat.le_trans (Nat.le_trans (Nat.le_trans (Nat.le_trans (Nat.le_trans (Nat.le_trans (Nat.le_trans (Nat.le_trans (Nat.le_trans (Nat.le_trans (Nat.le_trans (Nat.le_trans (Nat.le_trans (Nat.le_trans (Nat.le_trans (Nat.le_trans (Nat.le_trans (Nat.le_refl _) K105.1) (Nat.le_of_eq W106.size.symm)) E109.1) E114.1) (Nat.le_of_eq W116.size.symm)) E123.1) (Nat.le_of_eq W127.size.symm)) E133.1) (Nat.le_of_eq W136.size.symm)) E141.1) (Nat.le_of_eq W144.size.symm)) E149.1) (Nat.le_of_eq W152.size.symm)) E157.1) (Nat.le_of_eq W160.size.symm)) E165.1) (Nat.le_of_eq W168.size.symm)) E173.1) (Nat.le_of_eq W176.size.symm)) E181.1) (Nat.le_of_eq W184.size.symm)) E186.1) E192.1) (Nat.le_of_eq W194.size.symm)) (Nat.le_of_eq g197.symm)
  have A197 : AL Z h197 b197 k197 .int [(.int (0 : Int32)), (.int (0 : Int32)), (.int (0 : Int32)), (.int (0 : Int32)), (.int (0 : Int32)), (.int (0 : Int32)), (.int (0 : Int32)), (.int (0 : Int32))] := A197
  have c200 : Fld Z h197 r "com/example/opacheck/opacheck/PrecedenceTraversal" "positions" "[I" .null := (Fld.ext E197 (Fld.other W194 (Fld.ext E192 (Fld.ext E186 (Fld.other W184 (Fld.ext E181 (Fld.other W176 (Fld.ext E173 (Fld.other W168 (Fld.ext E165 (Fld.other W160 (Fld.ext E157 (Fld.other W152 (Fld.ext E149 (Fld.other W144 (Fld.ext E141 (Fld.other W136 (Fld.ext E133 (Fld.other W127 (Fld.ext E123 (Fld.other W116 (Fld.ext E114 (Fld.ext E109 (Fld.other W106 (Fld.keep Fpositions K105 nin0) (Or.inr (slot_ne (Or.inr (hw _ (List.mem_of_getElem? (i := 52) rfl))) (Or.inr (hw _ (List.mem_of_getElem? (i := 41) rfl))) (by decide) (t := (.array .int)) (t' := (.array .int)) (by decide) (by decide)))))) (Or.inr (slot_ne (Or.inr (hw _ (List.mem_of_getElem? (i := 52) rfl))) (Or.inr (hw _ (List.mem_of_getElem? (i := 47) rfl))) (by decide) (t := (.array .int)) (t' := (.array (.array .int))) (by decide) (by decide))))) (Or.inl (Ne.symm ne125)))) (Or.inl (Ne.symm ne125)))) (Or.inl (Ne.symm ne125)))) (Or.inl (Ne.symm ne125)))) (Or.inl (Ne.symm ne125)))) (Or.inl (Ne.symm ne125)))) (Or.inl (Ne.symm ne125)))) (Or.inl (Ne.symm ne125))))) (Or.inr (slot_ne (Or.inr (hw _ (List.mem_of_getElem? (i := 52) rfl))) (Or.inr (hw _ (List.mem_of_getElem? (i := 50) rfl))) (by decide) (t := (.array .int)) (t' := (.array .int)) (by decide) (by decide)))))
  have c201 : Exa Z h197 r "com/example/opacheck/opacheck/PrecedenceTraversal" := (Exa.ext E197 (Exa.wr W194 c196))
  refine Go.putF (pc' := 197) (host := "") (ty := (.array .int)) C X197 (Or.inl (hw _ (List.mem_of_getElem? (i := 51) rfl))) Via.refl e197 c200 c201 (Or.inr ⟨(hw _ (List.mem_of_getElem? (i := 52) rfl)), rfl, rfl⟩) (hw _ (List.mem_of_getElem? (i := 18) rfl)) (by decide) rfl rfl d3_194 rfl ?_
  intro T199 h199 X199 e199 W199 F199
  have N199 := Fr.snoc X199 N194 hn
  refine Go.aloadN (pc' := 198) C X199 d3_197 rfl rfl rfl ?_
  refine Go.aloadN (pc' := 199) C X199 d3_198 rfl rfl rfl ?_
  have c203 : Fld Z h199 r "com/example/opacheck/opacheck/PrecedenceTraversal" "members" "[I" (.ref b_105) := (Fld.other W199 (Fld.ext E197 (Fld.other W194 (Fld.ext E192 (Fld.ext E186 (Fld.other W184 (Fld.ext E181 (Fld.other W176 (Fld.ext E173 (Fld.other W168 (Fld.ext E165 (Fld.other W160 (Fld.ext E157 (Fld.other W152 (Fld.ext E149 (Fld.other W144 (Fld.ext E141 (Fld.other W136 (Fld.ext E133 (Fld.other W127 (Fld.ext E123 (Fld.other W116 (Fld.ext E114 (Fld.ext E109 F106)) (Or.inr (slot_ne (Or.inr (hw _ (List.mem_of_getElem? (i := 41) rfl))) (Or.inr (hw _ (List.mem_of_getElem? (i := 47) rfl))) (by decide) (t := (.array .int)) (t' := (.array (.array .int))) (by decide) (by decide))))) (Or.inl (Ne.symm ne125)))) (Or.inl (Ne.symm ne125)))) (Or.inl (Ne.symm ne125)))) (Or.inl (Ne.symm ne125)))) (Or.inl (Ne.symm ne125)))) (Or.inl (Ne.symm ne125)))) (Or.inl (Ne.symm ne125)))) (Or.inl (Ne.symm ne125))))) (Or.inr (slot_ne (Or.inr (hw _ (List.mem_of_getElem? (i := 41) rfl))) (Or.inr (hw _ (List.mem_of_getElem? (i := 50) rfl))) (by decide) (t := (.array .int)) (t' := (.array .int)) (by decide) (by decide))))) (Or.inr (slot_ne (Or.inr (hw _ (List.mem_of_getElem? (i := 41) rfl))) (Or.inr (hw _ (List.mem_of_getElem? (i := 52) rfl))) (by decide) (t := (.array .int)) (t' := (.array .int)) (by decide) (by decide))))
  refine Go.getF (pc' := 202) (host := "") C X199 (Or.inl (hw _ (List.mem_of_getElem? (i := 40) rfl))) Via.refl e199 c203 d3_199 rfl ?_
  intro T202 X202 e202
  have ne204 : b_105 ≠ r := (Nat.ne_of_gt (Nat.lt_of_lt_of_le E0.lt (Nat.le_trans (Nat.le_refl _) B105_0)))
  have ne205 : b_105 ≠ b114 := Nat.ne_of_lt (Nat.lt_of_lt_of_le P105_0.lt (Nat.le_trans (Nat.le_trans (Nat.le_trans (Nat.le_refl _) (Nat.le_of_eq W106.size.symm)) E109.1) (Nat.le_of_eq g114.symm)))
  have c206 : AL Z h199 b_105 kb_105 .int [] := (AL.other W199 (AL.ext E197 (AL.other W194 (AL.ext E192 (AL.ext E186 (AL.other W184 (AL.ext E181 (AL.other W176 (AL.ext E173 (AL.other W168 (AL.ext E165 (AL.other W160 (AL.ext E157 (AL.other W152 (AL.ext E149 (AL.other W144 (AL.ext E141 (AL.other W136 (AL.ext E133 (AL.other W127 (AL.ext E123 (AL.other W116 (AL.ext E114 (AL.ext E109 (AL.other W106 P105_0 ne204))) ne204)) ne205)) ne205)) ne205)) ne205)) ne205)) ne205)) ne205)) ne205))) ne204)) ne204)
  refine Go.alen (z := (0 : Int32)) (pc' := 203) C X202 e202 c206 rfl d3_202 rfl ?_
  refine Go.iconst (z := (1 : Int32)) (pc' := 204) C X202 d3_203 rfl rfl ?_
  refine Go.iadd (pc' := 205) C X202 d3_204 rfl ?_
  rw [show ((0 : Int32) + (1 : Int32)) = (1 : Int32) from by decide]
  have O208 : Ext Z.heap h199 := (Ext.wr (Ext.trans O198 E197) W199 hn)
  refine Go.newP (aty := .int) (cap := 1) (vs := [(.int (0 : Int32))]) (ad := "[I") (pc' := 207) C X202 (by decide) (hw _ (List.mem_of_getElem? (i := 10) rfl)) e202 (by decide) (by decide) (by decide) (by decide) (by decide) rfl d3_205 rfl ?_
  intro T207 h207 b207 k207 X207 e207 g207 E207 A207 Ea207
  have n_b207 : Z.heap.size ≤ b207 := Nat.le_trans O208.1 (Nat.le_of_eq g207.symm)
  have z_b207 : h0.size ≤ b207 := Nat.le_trans (Nat.le_trans (Nat.le_trans (Nat.le_trans (Nat.le_trans (Nat.le_trans (Nat.le_trans (Nat.le_trans (Nat.le_trans (Nat.le_trans (Nat.le_trans (Nat.le_trans (Nat.le_trans (Nat.le_trans (Nat.le_trans (Nat.le_trans (Nat.le_trans (Nat.le_trans (Nat.le_trans (Nat.le_trans (Nat.le_trans (Nat.le_trans (Nat.le_trans (Nat.le_trans (Nat.le_trans (Nat.le_trans (Nat.le_trans (Nat.le_refl _) K105.1) (Nat.le_of_eq W106.size.symm)) E109.1) E114.1) (Nat.le_of_eq W116.size.symm)) E123.1) (Nat.le_of_eq W127.size.symm)) E133.1) (Nat.le_of_eq W136.size.symm)) E141.1) (Nat.le_of_eq W144.size.symm)) E149.1) (Nat.le_of_eq W152.size.symm)) E157.1) (Nat.le_of_eq W160.size.symm)) E165.1) (Nat.le_of_eq W168.size.symm)) E173.1) (Nat.le_of_eq W176.size.symm)) E181.1) (Nat.le_of_eq W184.size.symm)) E186.1) E192.1) (Nat.le_of_eq W194.size.symm)) E197.1) (Nat.le_of_eq W199.size.symm)) (Nat.le_of_eq g207.symm)
  have A207 : AL Z h207 b207 k207 .int [(.int (0 : Int32))] := A207
  have c210 : Fld Z h207 r "com/example/opacheck/opacheck/PrecedenceTraversal" "links" "[I" .null := (Fld.ext E207 (Fld.other W199 (Fld.ext E197 (Fld.other W194 (Fld.ext E192 (Fld.ext E186 (Fld.other W184 (Fld.ext E181 (Fld.other W176 (Fld.ext E173 (Fld.other W168 (Fld.ext E165 (Fld.other W160 (Fld.ext E157 (Fld.other W152 (Fld.ext E149 (Fld.other W144 (Fld.ext E141 (Fld.other W136 (Fld.ext E133 (Fld.other W127 (Fld.ext E123 (Fld.other W116 (Fld.ext E114 (Fld.ext E109 (Fld.other W106 (Fld.keep Flinks K105 nin0) (Or.inr (slot_ne (Or.inr (hw _ (List.mem_of_getElem? (i := 54) rfl))) (Or.inr (hw _ (List.mem_of_getElem? (i := 41) rfl))) (by decide) (t := (.array .int)) (t' := (.array .int)) (by decide) (by decide)))))) (Or.inr (slot_ne (Or.inr (hw _ (List.mem_of_getElem? (i := 54) rfl))) (Or.inr (hw _ (List.mem_of_getElem? (i := 47) rfl))) (by decide) (t := (.array .int)) (t' := (.array (.array .int))) (by decide) (by decide))))) (Or.inl (Ne.symm ne125)))) (Or.inl (Ne.symm ne125)))) (Or.inl (Ne.symm ne125)))) (Or.inl (Ne.symm ne125)))) (Or.inl (Ne.symm ne125)))) (Or.inl (Ne.symm ne125)))) (Or.inl (Ne.symm ne125)))) (Or.inl (Ne.symm ne125))))) (Or.inr (slot_ne (Or.inr (hw _ (List.mem_of_getElem? (i := 54) rfl))) (Or.inr (hw _ (List.mem_of_getElem? (i := 50) rfl))) (by decide) (t := (.array .int)) (t' := (.array .int)) (by decide) (by decide))))) (Or.inr (slot_ne (Or.inr (hw _ (List.mem_of_getElem? (i := 54) rfl))) (Or.inr (hw _ (List.mem_of_getElem? (i := 52) rfl))) (by decide) (t := (.array .int)) (t' := (.array .int)) (by decide) (by decide)))))
  have c211 : Exa Z h207 r "com/example/opacheck/opacheck/PrecedenceTraversal" := (Exa.ext E207 (Exa.wr W199 c201))
  refine Go.putF (pc' := 210) (host := "") (ty := (.array .int)) C X207 (Or.inl (hw _ (List.mem_of_getElem? (i := 53) rfl))) Via.refl e207 c210 c211 (Or.inr ⟨(hw _ (List.mem_of_getElem? (i := 54) rfl)), rfl, rfl⟩) (hw _ (List.mem_of_getElem? (i := 18) rfl)) (by decide) rfl rfl d3_207 rfl ?_
  intro T209 h209 X209 e209 W209 F209
  have N209 := Fr.snoc X209 N199 hn
  refine Go.aloadN (pc' := 211) C X209 d3_210 rfl rfl rfl ?_
  refine Go.aloadN (pc' := 212) C X209 d3_211 rfl rfl rfl ?_
  have c213 : Fld Z h209 r "com/example/opacheck/opacheck/PrecedenceTraversal" "members" "[I" (.ref b_105) := (Fld.other W209 (Fld.ext E207 c203) (Or.inr (slot_ne (Or.inr (hw _ (List.mem_of_getElem? (i := 41) rfl))) (Or.inr (hw _ (List.mem_of_getElem? (i := 54) rfl))) (by decide) (t := (.array .int)) (t' := (.array .int)) (by decide) (by decide))))
  refine Go.getF (pc' := 215) (host := "") C X209 (Or.inl (hw _ (List.mem_of_getElem? (i := 40) rfl))) Via.refl e209 c213 d3_212 rfl ?_
  intro T212 X212 e212
  have c214 : AL Z h209 b_105 kb_105 .int [] := (AL.other W209 (AL.ext E207 c206) ne204)
  refine Go.alen (z := (0 : Int32)) (pc' := 216) C X212 e212 c214 rfl d3_215 rfl ?_
  refine Go.iconst (z := (1 : Int32)) (pc' := 217) C X212 d3_216 rfl rfl ?_
  refine Go.iadd (pc' := 218) C X212 d3_217 rfl ?_
  rw [show ((0 : Int32) + (1 : Int32)) = (1 : Int32) from by decide]
  have O216 : Ext Z.heap h209 := (Ext.wr (Ext.trans O208 E207) W209 hn)
  refine Go.newP (aty := .int) (cap := 1) (vs := [(.int (0 : Int32))]) (ad := "[I") (pc' := 220) C X212 (by decide) (hw _ (List.mem_of_getElem? (i := 10) rfl)) e212 (by decide) (by decide) (by decide) (by decide) (by decide) rfl d3_218 rfl ?_
  intro T215 h215 b215 k215 X215 e215 g215 E215 A215 Ea215
  have n_b215 : Z.heap.size ≤ b215 := Nat.le_trans O216.1 (Nat.le_of_eq g215.symm)
  have z_b215 : h0.size ≤ b215 := Nat.le_trans (Nat.le_trans (Nat.le_trans (Nat.le_trans (Nat.le_trans (Nat.le_trans (Nat.le_trans (Nat.le_trans (Nat.le_trans (Nat.le_trans (Nat.le_trans (Nat.le_trans (Nat.le_trans (Nat.le_trans (Nat.le_trans (Nat.le_trans (Nat.le_trans (Nat.le_trans (Nat.le_trans (Nat.le_trans (Nat.le_trans (Nat.le_trans (Nat.le_trans (Nat.le_trans (Nat.le_trans (Nat.le_trans (Nat.le_trans (Nat.le_trans (Nat.le_trans (Nat.le_refl _) K105.1) (Nat.le_of_eq W106.size.symm)) E109.1) E114.1) (Nat.le_of_eq W116.size.symm)) E123.1) (Nat.le_of_eq W127.size.symm)) E133.1) (Nat.le_of_eq W136.size.symm)) E141.1) (Nat.le_of_eq W144.size.symm)) E149.1) (Nat.le_of_eq W152.size.symm)) E157.1) (Nat.le_of_eq W160.size.symm)) E165.1) (Nat.le_of_eq W168.size.symm)) E173.1) (Nat.le_of_eq W176.size.symm)) E181.1) (Nat.le_of_eq W184.size.symm)) E186.1) E192.1) (Nat.le_of_eq W194.size.symm)) E197.1) (Nat.le_of_eq W199.size.symm)) E207.1) (Nat.le_of_eq W209.size.symm)) (Nat.le_of_eq g215.symm)
  have A215 : AL Z h215 b215 k215 .int [(.int (0 : Int32))] := A215
  have c218 : Fld Z h215 r "com/example/opacheck/opacheck/PrecedenceTraversal" "linkedIn" "[I" .null := (Fld.ext E215 (Fld.other W209 (Fld.ext E207 (Fld.other W199 (Fld.ext E197 (Fld.other W194 (Fld.ext E192 (Fld.ext E186 (Fld.other W184 (Fld.ext E181 (Fld.other W176 (Fld.ext E173 (Fld.other W168 (Fld.ext E165 (Fld.other W160 (Fld.ext E157 (Fld.other W152 (Fld.ext E149 (Fld.other W144 (Fld.ext E141 (Fld.other W136 (Fld.ext E133 (Fld.other W127 (Fld.ext E123 (Fld.other W116 (Fld.ext E114 (Fld.ext E109 (Fld.other W106 (Fld.keep FlinkedIn K105 nin0) (Or.inr (slot_ne (Or.inr (hw _ (List.mem_of_getElem? (i := 56) rfl))) (Or.inr (hw _ (List.mem_of_getElem? (i := 41) rfl))) (by decide) (t := (.array .int)) (t' := (.array .int)) (by decide) (by decide)))))) (Or.inr (slot_ne (Or.inr (hw _ (List.mem_of_getElem? (i := 56) rfl))) (Or.inr (hw _ (List.mem_of_getElem? (i := 47) rfl))) (by decide) (t := (.array .int)) (t' := (.array (.array .int))) (by decide) (by decide))))) (Or.inl (Ne.symm ne125)))) (Or.inl (Ne.symm ne125)))) (Or.inl (Ne.symm ne125)))) (Or.inl (Ne.symm ne125)))) (Or.inl (Ne.symm ne125)))) (Or.inl (Ne.symm ne125)))) (Or.inl (Ne.symm ne125)))) (Or.inl (Ne.symm ne125))))) (Or.inr (slot_ne (Or.inr (hw _ (List.mem_of_getElem? (i := 56) rfl))) (Or.inr (hw _ (List.mem_of_getElem? (i := 50) rfl))) (by decide) (t := (.array .int)) (t' := (.array .int)) (by decide) (by decide))))) (Or.inr (slot_ne (Or.inr (hw _ (List.mem_of_getElem? (i := 56) rfl))) (Or.inr (hw _ (List.mem_of_getElem? (i := 52) rfl))) (by decide) (t := (.array .int)) (t' := (.array .int)) (by decide) (by decide))))) (Or.inr (slot_ne (Or.inr (hw _ (List.mem_of_getElem? (i := 56) rfl))) (Or.inr (hw _ (List.mem_of_getElem? (i := 54) rfl))) (by decide) (t := (.array .int)) (t' := (.array .int)) (by decide) (by decide)))))
  have c219 : Exa Z h215 r "com/example/opacheck/opacheck/PrecedenceTraversal" := (Exa.ext E215 (Exa.wr W209 c211))
  refine Go.putF (pc' := 223) (host := "") (ty := (.array .int)) C X215 (Or.inl (hw _ (List.mem_of_getElem? (i := 55) rfl))) Via.refl e215 c218 c219 (Or.inr ⟨(hw _ (List.mem_of_getElem? (i := 56) rfl)), rfl, rfl⟩) (hw _ (List.mem_of_getElem? (i := 18) rfl)) (by decide) rfl rfl d3_220 rfl ?_
  intro T217 h217 X217 e217 W217 F217
  have N217 := Fr.snoc X217 N209 hn
  refine Go.aloadN (pc' := 224) C X217 d3_223 rfl rfl rfl ?_
  refine Go.iloadN (pc' := 225) C X217 d3_224 rfl rfl ?_
  have O221 : Ext Z.heap h217 := (Ext.wr (Ext.trans O216 E215) W217 hn)
  refine Go.newP (aty := .int) (cap := 8) (vs := [(.int (0 : Int32)), (.int (0 : Int32)), (.int (0 : Int32)), (.int (0 : Int32)), (.int (0 : Int32)), (.int (0 : Int32)), (.int (0 : Int32)), (.int (0 : Int32))]) (ad := "[I") (pc' := 227) C X217 (by decide) (hw _ (List.mem_of_getElem? (i := 10) rfl)) e217 (by decide) (by decide) (by decide) (by decide) (by decide) rfl d3_225 rfl ?_
  intro T220 h220 b220 k220 X220 e220 g220 E220 A220 Ea220
  have n_b220 : Z.heap.size ≤ b220 := Nat.le_trans O221.1 (Nat.le_of_eq g220.symm)
  have z_b220 : h0.size ≤ b220 := Nat.le_trans (Nat.le_trans (Nat.le_trans (Nat.le_trans (Nat.le_trans (Nat.le_trans (Nat.le_trans (Nat.le_trans (Nat.le_trans (Nat.le_trans (Nat.le_trans (Nat.le_trans (Nat.le_trans (Nat.le_trans (Nat.le_trans (Nat.le_trans (Nat.le_trans (Nat.le_trans (Nat.le_trans (Nat.le_trans (Nat.le_trans (Nat.le_trans (Nat.le_trans (Nat.le_trans (Nat.le_trans (Nat.le_trans (Nat.le_trans (Nat.le_trans (Nat.le_trans (Nat.le_trans (Nat.le_trans (Nat.le_refl _) K105.1) (Nat.le_of_eq W106.size.symm)) E109.1) E114.1) (Nat.le_of_eq W116.size.symm)) E123.1) (Nat.le_of_eq W127.size.symm)) E133.1) (Nat.le_of_eq W136.size.symm)) E141.1) (Nat.le_of_eq W144.size.symm)) E149.1) (Nat.le_of_eq W152.size.symm)) E157.1) (Nat.le_of_eq W160.size.symm)) E165.1) (Nat.le_of_eq W168.size.symm)) E173.1) (Nat.le_of_eq W176.size.symm)) E181.1) (Nat.le_of_eq W184.size.symm)) E186.1) E192.1) (Nat.le_of_eq W194.size.symm)) E197.1) (Nat.le_of_eq W199.size.symm)) E207.1) (Nat.le_of_eq W209.size.symm)) E215.1) (Nat.le_of_eq W217.size.symm)) (Nat.le_of_eq g220.symm)
  have A220 : AL Z h220 b220 k220 .int [(.int (0 : Int32)), (.int (0 : Int32)), (.int (0 : Int32)), (.int (0 : Int32)), (.int (0 : Int32)), (.int (0 : Int32)), (.int (0 : Int32)), (.int (0 : Int32))] := A220
  have c223 : Fld Z h220 r "com/example/opacheck/opacheck/PrecedenceTraversal" "path" "[I" .null := (Fld.ext E220 (Fld.other W217 (Fld.ext E215 (Fld.other W209 (Fld.ext E207 (Fld.other W199 (Fld.ext E197 (Fld.other W194 (Fld.ext E192 (Fld.ext E186 (Fld.other W184 (Fld.ext E181 (Fld.other W176 (Fld.ext E173 (Fld.other W168 (Fld.ext E165 (Fld.other W160 (Fld.ext E157 (Fld.other W152 (Fld.ext E149 (Fld.other W144 (Fld.ext E141 (Fld.other W136 (Fld.ext E133 (Fld.other W127 (Fld.ext E123 (Fld.other W116 (Fld.ext E114 (Fld.ext E109 (Fld.other W106 (Fld.keep Fpath K105 nin0) (Or.inr (slot_ne (Or.inr (hw _ (List.mem_of_getElem? (i := 58) rfl))) (Or.inr (hw _ (List.mem_of_getElem? (i := 41) rfl))) (by decide) (t := (.array .int)) (t' := (.array .int)) (by decide) (by decide)))))) (Or.inr (slot_ne (Or.inr (hw _ (List.mem_of_getElem? (i := 58) rfl))) (Or.inr (hw _ (List.mem_of_getElem? (i := 47) rfl))) (by decide) (t := (.array .int)) (t' := (.array (.array .int))) (by decide) (by decide))))) (Or.inl (Ne.symm ne125)))) (Or.inl (Ne.symm ne125)))) (Or.inl (Ne.symm ne125)))) (Or.inl (Ne.symm ne125)))) (Or.inl (Ne.symm ne125)))) (Or.inl (Ne.symm ne125)))) (Or.inl (Ne.symm ne125)))) (Or.inl (Ne.symm ne125))))) (Or.inr (slot_ne (Or.inr (hw _ (List.mem_of_getElem? (i := 58) rfl))) (Or.inr (hw _ (List.mem_of_getElem? (i := 50) rfl))) (by decide) (t := (.array .int)) (t' := (.array .int)) (by decide) (by decide))))) (Or.inr (slot_ne (Or.inr (hw _ (List.mem_of_getElem? (i := 58) rfl))) (Or.inr (hw _ (List.mem_of_getElem? (i := 52) rfl))) (by decide) (t := (.array .int)) (t' := (.array .int)) (by decide) (by decide))))) (Or.inr (slot_ne (Or.inr (hw _ (List.mem_of_getElem? (i := 58) rfl))) (Or.inr (hw _ (List.mem_of_getElem? (i := 54) rfl))) (by decide) (t := (.array .int)) (t' := (.array .int)) (by decide) (by decide))))) (Or.inr (slot_ne (Or.inr (hw _ (List.mem_of_getElem? (i := 58) rfl))) (Or.inr (hw _ (List.mem_of_getElem? (i := 56) rfl))) (by decide) (t := (.array .int)) (t' := (.array .int)) (by decide) (by decide)))))
  have c224 : Exa Z h220 r "com/example/opacheck/opacheck/PrecedenceTraversal" := (Exa.ext E220 (Exa.wr W217 c219))
  refine Go.putF (pc' := 230) (host := "") (ty := (.array .int)) C X220 (Or.inl (hw _ (List.mem_of_getElem? (i := 57) rfl))) Via.refl e220 c223 c224 (Or.inr ⟨(hw _ (List.mem_of_getElem? (i := 58) rfl)), rfl, rfl⟩) (hw _ (List.mem_of_getElem? (i := 18) rfl)) (by decide) rfl rfl d3_227 rfl ?_
  intro T222 h222 X222 e222 W222 F222
  have N222 := Fr.snoc X222 N217 hn
  have K225 : Keep h0 h222 [r] := (((((((((((((((((((((((((((((((((Keep.refl h0 [r]).trans K105 all0).wr W106 (Or.inl (by simp))).ext E109).ext E114).wr W116 (Or.inl (by simp))).ext E123).wr W127 (Or.inr z_b114)).ext E133).wr W136 (Or.inr z_b114)).ext E141).wr W144 (Or.inr z_b114)).ext E149).wr W152 (Or.inr z_b114)).ext E157).wr W160 (Or.inr z_b114)).ext E165).wr W168 (Or.inr z_b114)).ext E173).wr W176 (Or.inr z_b114)).ext E181).wr W184 (Or.inr z_b114)).ext E186).ext E192).wr W194 (Or.inl (by simp))).ext E197).wr W199 (Or.inl (by simp))).ext E207).wr W209 (Or.inl (by simp))).ext E215).wr W217 (Or.inl (by simp))).ext E220).wr W222 (Or.inl (by simp)))
  have c226 : Fld Z h222 r "com/example/opacheck/opacheck/PrecedenceTraversal" "visitedIn" "[I" (.ref b192) := (Fld.other W222 (Fld.ext E220 (Fld.other W217 (Fld.ext E215 (Fld.other W209 (Fld.ext E207 (Fld.other W199 (Fld.ext E197 F194) (Or.inr (slot_ne (Or.inr (hw _ (List.mem_of_getElem? (i := 50) rfl))) (Or.inr (hw _ (List.mem_of_getElem? (i := 52) rfl))) (by decide) (t := (.array .int)) (t' := (.array .int)) (by decide) (by decide))))) (Or.inr (slot_ne (Or.inr (hw _ (List.mem_of_getElem? (i := 50) rfl))) (Or.inr (hw _ (List.mem_of_getElem? (i := 54) rfl))) (by decide) (t := (.array .int)) (t' := (.array .int)) (by decide) (by decide))))) (Or.inr (slot_ne (Or.inr (hw _ (List.mem_of_getElem? (i := 50) rfl))) (Or.inr (hw _ (List.mem_of_getElem? (i := 56) rfl))) (by decide) (t := (.array .int)) (t' := (.array .int)) (by decide) (by decide))))) (Or.inr (slot_ne (Or.inr (hw _ (List.mem_of_getElem? (i := 50) rfl))) (Or.inr (hw _ (List.mem_of_getElem? (i := 58) rfl))) (by decide) (t := (.array .int)) (t' := (.array .int)) (by decide) (by decide))))
  have ne227 : b192 ≠ r := (Nat.ne_of_gt (Nat.lt_of_lt_of_le E0.lt (Nat.le_trans (Nat.le_trans (Nat.le_trans (Nat.le_trans (Nat.le_trans (Nat.le_trans (Nat.le_trans (Nat.le_trans (Nat.le_trans (Nat.le_trans (Nat.le_trans (Nat.le_trans (Nat.le_trans (Nat.le_trans (Nat.le_trans (Nat.le_trans (Nat.le_trans (Nat.le_trans (Nat.le_trans (Nat.le_trans (Nat.le_trans (Nat.le_trans (Nat.le_trans (Nat.le_refl _) K105.1) (Nat.le_of_eq W106.size.symm)) E109.1) E114.1) (Nat.le_of_eq W116.size.symm)) E123.1) (Nat.le_of_eq W127.size.symm)) E133.1) (Nat.le_of_eq W136.size.symm)) E141.1) (Nat.le_of_eq W144.size.symm)) E149.1) (Nat.le_of_eq W152.size.symm)) E157.1) (Nat.le_of_eq W160.size.symm)) E165.1) (Nat.le_of_eq W168.size.symm)) E173.1) (Nat.le_of_eq W176.size.symm)) E181.1) (Nat.le_of_eq W184.size.symm)) E186.1) (Nat.le_of_eq g192.symm))))
  have c228 : AL Z h222 b192 k192 .int [(.int (0 : Int32)), (.int (0 : Int32)), (.int (0 : Int32)), (.int (0 : Int32)), (.int (0 : Int32)), (.int (0 : Int32)), (.int (0 : Int32)), (.int (0 : Int32))] := (AL.other W222 (AL.ext E220 (AL.other W217 (AL.ext E215 (AL.other W209 (AL.ext E207 (AL.other W199 (AL.ext E197 (AL.other W194 A192 ne227)) ne227)) ne227)) ne227)) ne227)
  have c229 : Fld Z h222 r "com/example/opacheck/opacheck/PrecedenceTraversal" "positions" "[I" (.ref b197) := (Fld.other W222 (Fld.ext E220 (Fld.other W217 (Fld.ext E215 (Fld.other W209 (Fld.ext E207 F199) (Or.inr (slot_ne (Or.inr (hw _ (List.mem_of_getElem? (i := 52) rfl))) (Or.inr (hw _ (List.mem_of_getElem? (i := 54) rfl))) (by decide) (t := (.array .int)) (t' := (.array .int)) (by decide) (by decide))))) (Or.inr (slot_ne (Or.inr (hw _ (List.mem_of_getElem? (i := 52) rfl))) (Or.inr (hw _ (List.mem_of_getElem? (i := 56) rfl))) (by decide) (t := (.array .int)) (t' := (.array .int)) (by decide) (by decide))))) (Or.inr (slot_ne (Or.inr (hw _ (List.mem_of_getElem? (i := 52) rfl))) (Or.inr (hw _ (List.mem_of_getElem? (i := 58) rfl))) (by decide) (t := (.array .int)) (t' := (.array .int)) (by decide) (by decide))))
  have ne230 : b197 ≠ r := (Nat.ne_of_gt (Nat.lt_of_lt_of_le E0.lt (Nat.le_trans (Nat.le_trans (Nat.le_trans (Nat.le_trans (Nat.le_trans (Nat.le_trans (Nat.le_trans (Nat.le_trans (Nat.le_trans (Nat.le_trans (Nat.le_trans (Nat.le_trans (Nat.le_trans (Nat.le_trans (Nat.le_trans (Nat.le_trans (Nat.le_trans (Nat.le_trans (Nat.le_trans (Nat.le_trans (Nat.le_trans (Nat.le_trans (Nat.le_trans (Nat.le_trans (Nat.le_trans (Nat.le_refl _) K105.1) (Nat.le_of_eq W106.size.symm)) E109.1) E114.1) (Nat.le_of_eq W116.size.symm)) E123.1) (Nat.le_of_eq W127.size.symm)) E133.1) (Nat.le_of_eq W136.size.symm)) E141.1) (Nat.le_of_eq W144.size.symm)) E149.1) (Nat.le_of_eq W152.size.symm)) E157.1) (Nat.le_of_eq W160.size.symm)) E165.1) (Nat.le_of_eq W168.size.symm)) E173.1) (Nat.le_of_eq W176.size.symm)) E181.1) (Nat.le_of_eq W184.size.symm)) E186.1) E192.1) (Nat.le_of_eq W194.size.symm)) (Nat.le_of_eq g197.symm))))
  have c231 : AL Z h222 b197 k197 .int [(.int (0 : Int32)), (.int (0 : Int32)), (.int (0 : Int32)), (.int (0 : Int32)), (.int (0 : Int32)), (.int (0 : Int32)), (.int (0 : Int32)), (.int (0 : Int32))] := (AL.other W222 (AL.ext E220 (AL.other W217 (AL.ext E215 (AL.other W209 (AL.ext E207 (AL.other W199 A197 ne230)) ne230)) ne230)) ne230)
  have c232 : Fld Z h222 r "com/example/opacheck/opacheck/PrecedenceTraversal" "number" "I" (.int (0 : Int32)) := (Fld.other W222 (Fld.ext E220 (Fld.other W217 (Fld.ext E215 (Fld.other W209 (Fld.ext E207 (Fld.other W199 (Fld.ext E197 (Fld.other W194 (Fld.ext E192 (Fld.ext E186 (Fld.other W184 (Fld.ext E181 (Fld.other W176 (Fld.ext E173 (Fld.other W168 (Fld.ext E165 (Fld.other W160 (Fld.ext E157 (Fld.other W152 (Fld.ext E149 (Fld.other W144 (Fld.ext E141 (Fld.other W136 (Fld.ext E133 (Fld.other W127 (Fld.ext E123 (Fld.other W116 (Fld.ext E114 (Fld.ext E109 (Fld.other W106 (Fld.keep Fnum K105 nin0) (Or.inr (slot_ne (Or.inl (hw _ (List.mem_of_getElem? (i := 65) rfl))) (Or.inr (hw _ (List.mem_of_getElem? (i := 41) rfl))) (by decide) (t := .int) (t' := (.array .int)) (by decide) (by decide)))))) (Or.inr (slot_ne (Or.inl (hw _ (List.mem_of_getElem? (i := 65) rfl))) (Or.inr (hw _ (List.mem_of_getElem? (i := 47) rfl))) (by decide) (t := .int) (t' := (.array (.array .int))) (by decide) (by decide))))) (Or.inl (Ne.symm ne125)))) (Or.inl (Ne.symm ne125)))) (Or.inl (Ne.symm ne125)))) (Or.inl (Ne.symm ne125)))) (Or.inl (Ne.symm ne125)))) (Or.inl (Ne.symm ne125)))) (Or.inl (Ne.symm ne125)))) (Or.inl (Ne.symm ne125))))) (Or.inr (slot_ne (Or.inl (hw _ (List.mem_of_getElem? (i := 65) rfl))) (Or.inr (hw _ (List.mem_of_getElem? (i := 50) rfl))) (by decide) (t := .int) (t' := (.array .int)) (by decide) (by decide))))) (Or.inr (slot_ne (Or.inl (hw _ (List.mem_of_getElem? (i := 65) rfl))) (Or.inr (hw _ (List.mem_of_getElem? (i := 52) rfl))) (by decide) (t := .int) (t' := (.array .int)) (by decide) (by decide))))) (Or.inr (slot_ne (Or.inl (hw _ (List.mem_of_getElem? (i := 65) rfl))) (Or.inr (hw _ (List.mem_of_getElem? (i := 54) rfl))) (by decide) (t := .int) (t' := (.array .int)) (by decide) (by decide))))) (Or.inr (slot_ne (Or.inl (hw _ (List.mem_of_getElem? (i := 65) rfl))) (Or.inr (hw _ (List.mem_of_getElem? (i := 56) rfl))) (by decide) (t := .int) (t' := (.array .int)) (by decide) (by decide))))) (Or.inr (slot_ne (Or.inl (hw _ (List.mem_of_getElem? (i := 65) rfl))) (Or.inr (hw _ (List.mem_of_getElem? (i := 58) rfl))) (by decide) (t := .int) (t' := (.array .int)) (by decide) (by decide))))
  have c233 : Fld Z h222 r "com/example/opacheck/opacheck/PrecedenceTraversal" "scope" "Ljava/util/function/IntPredicate;" .null := (Fld.other W222 (Fld.ext E220 (Fld.other W217 (Fld.ext E215 (Fld.other W209 (Fld.ext E207 (Fld.other W199 (Fld.ext E197 (Fld.other W194 (Fld.ext E192 (Fld.ext E186 (Fld.other W184 (Fld.ext E181 (Fld.other W176 (Fld.ext E173 (Fld.other W168 (Fld.ext E165 (Fld.other W160 (Fld.ext E157 (Fld.other W152 (Fld.ext E149 (Fld.other W144 (Fld.ext E141 (Fld.other W136 (Fld.ext E133 (Fld.other W127 (Fld.ext E123 (Fld.other W116 (Fld.ext E114 (Fld.ext E109 (Fld.other W106 (Fld.keep Fsc K105 nin0) (Or.inr (slot_ne (Or.inl (hw _ (List.mem_of_getElem? (i := 67) rfl))) (Or.inr (hw _ (List.mem_of_getElem? (i := 41) rfl))) (by decide) (t := (.object "java/util/function/IntPredicate")) (t' := (.array .int)) (by decide) (by decide)))))) (Or.inr (slot_ne (Or.inl (hw _ (List.mem_of_getElem? (i := 67) rfl))) (Or.inr (hw _ (List.mem_of_getElem? (i := 47) rfl))) (by decide) (t := (.object "java/util/function/IntPredicate")) (t' := (.array (.array .int))) (by decide) (by decide))))) (Or.inl (Ne.symm ne125)))) (Or.inl (Ne.symm ne125)))) (Or.inl (Ne.symm ne125)))) (Or.inl (Ne.symm ne125)))) (Or.inl (Ne.symm ne125)))) (Or.inl (Ne.symm ne125)))) (Or.inl (Ne.symm ne125)))) (Or.inl (Ne.symm ne125))))) (Or.inr (slot_ne (Or.inl (hw _ (List.mem_of_getElem? (i := 67) rfl))) (Or.inr (hw _ (List.mem_of_getElem? (i := 50) rfl))) (by decide) (t := (.object "java/util/function/IntPredicate")) (t' := (.array .int)) (by decide) (by decide))))) (Or.inr (slot_ne (Or.inl (hw _ (List.mem_of_getElem? (i := 67) rfl))) (Or.inr (hw _ (List.mem_of_getElem? (i := 52) rfl))) (by decide) (t := (.object "java/util/function/IntPredicate")) (t' := (.array .int)) (by decide) (by decide))))) (Or.inr (slot_ne (Or.inl (hw _ (List.mem_of_getElem? (i := 67) rfl))) (Or.inr (hw _ (List.mem_of_getElem? (i := 54) rfl))) (by decide) (t := (.object "java/util/function/IntPredicate")) (t' := (.array .int)) (by decide) (by decide))))) (Or.inr (slot_ne (Or.inl (hw _ (List.mem_of_getElem? (i := 67) rfl))) (Or.inr (hw _ (List.mem_of_getElem? (i := 56) rfl))) (by decide) (t := (.object "java/util/function/IntPredicate")) (t' := (.array .int)) (by decide) (by decide))))) (Or.inr (slot_ne (Or.inl (hw _ (List.mem_of_getElem? (i := 67) rfl))) (Or.inr (hw _ (List.mem_of_getElem? (i := 58) rfl))) (by decide) (t := (.object "java/util/function/IntPredicate")) (t' := (.array .int)) (by decide) (by decide))))
  have ne234 : b192 ≠ b197 := Nat.ne_of_lt (Nat.lt_of_lt_of_le A192.lt (Nat.le_trans (Nat.le_trans (Nat.le_refl _) (Nat.le_of_eq W194.size.symm)) (Nat.le_of_eq g197.symm)))
  exact Go.retV C X222 rfl d3_230 (by rw [e222]; exact ⟨b192, k192, b197, k197, rfl, N222, K225, z_b192, z_b197, c226, c228, c229, c231, c232, c233, ne234⟩) (by decide) (by decide)
theorem own_c8 (K : Int32) (h0 : 1 ≤ K.toInt) (h1 : K.toInt ≤ 8) : K = (1 : Int32) ∨ K = (2 : Int32) ∨ K = (3 : Int32) ∨ K = (4 : Int32) ∨ K = (5 : Int32) ∨ K = (6 : Int32) ∨ K = (7 : Int32) ∨ K = (8 : Int32) := by
  simp only [← Int32.toInt_inj, Int32.reduceToInt]; omega
def Q_ctg (Z : State) (r : Addr) (q : Addr) (v : Addr) (k : ClassId) (cnt : Int32) (h0 : Heap) (rv : Option Value) (h : Heap) (L : List Loc) : Prop := ∃ vi : Addr, ∃ ki : ClassId, ∃ vp : Addr, ∃ kp : ClassId, rv = none ∧ Fr Z.heap.size L ∧ Keep h0 h [r] ∧ h0.size ≤ vi ∧ h0.size ≤ vp ∧ Fld Z h r "com/example/opacheck/opacheck/PrecedenceTraversal" "visitedIn" "[I" (.ref vi) ∧ AL Z h vi ki .int (List.replicate cnt.toNatClampNeg (.int 0)) ∧ Fld Z h r "com/example/opacheck/opacheck/PrecedenceTraversal" "positions" "[I" (.ref vp) ∧ AL Z h vp kp .int (List.replicate cnt.toNatClampNeg (.int 0)) ∧ Fld Z h r "com/example/opacheck/opacheck/PrecedenceTraversal" "number" "I" (.int (0 : Int32)) ∧ Fld Z h r "com/example/opacheck/opacheck/PrecedenceTraversal" "scope" "Ljava/util/function/IntPredicate;" .null ∧ vi ≠ vp
theorem rm_ctg (l : Launch) (Z : State) (a0 : Array Value) (hw : ∀ d ∈ tables_1, d.before a0 Z = true) (r : Addr) (q : Addr) (v : Addr) (k : ClassId) (cnt : Int32) (h0 : Heap) (O0 : Ext Z.heap h0) (E0 : Exa Z h0 r "com/example/opacheck/opacheck/PrecedenceTraversal") (Fmembers : Fld Z h0 r "com/example/opacheck/opacheck/PrecedenceTraversal" "members" "[I" .null) (Franges : Fld Z h0 r "com/example/opacheck/opacheck/PrecedenceTraversal" "ranges" "[[I" .null) (FvisitedIn : Fld Z h0 r "com/example/opacheck/opacheck/PrecedenceTraversal" "visitedIn" "[I" .null) (Fpositions : Fld Z h0 r "com/example/opacheck/opacheck/PrecedenceTraversal" "positions" "[I" .null) (Flinks : Fld Z h0 r "com/example/opacheck/opacheck/PrecedenceTraversal" "links" "[I" .null) (FlinkedIn : Fld Z h0 r "com/example/opacheck/opacheck/PrecedenceTraversal" "linkedIn" "[I" .null) (Fpath : Fld Z h0 r "com/example/opacheck/opacheck/PrecedenceTraversal" "path" "[I" .null) (Fnum : Fld Z h0 r "com/example/opacheck/opacheck/PrecedenceTraversal" "number" "I" (.int (0 : Int32))) (Fsc : Fld Z h0 r "com/example/opacheck/opacheck/PrecedenceTraversal" "scope" "Ljava/util/function/IntPredicate;" .null) (Gm : Fld Z h0 q "com/example/opacheck/opacheck/PrecedenceTraversal$Neighbours" "members" "[I" (.ref v)) (Am : AL Z h0 v k .int [(.int (0 : Int32)), (.int (0 : Int32)), (.int (0 : Int32)), (.int (0 : Int32)), (.int (0 : Int32)), (.int (0 : Int32)), (.int (0 : Int32)), (.int (0 : Int32)), (.int (0 : Int32)), (.int (0 : Int32)), (.int (0 : Int32)), (.int (0 : Int32)), (.int (0 : Int32)), (.int (0 : Int32)), (.int (0 : Int32)), (.int (0 : Int32))]) (Gs : Fld Z h0 q "com/example/opacheck/opacheck/PrecedenceTraversal$Neighbours" "size" "I" (.int (0 : Int32))) (Gr : Fld Z h0 q "com/example/opacheck/opacheck/PrecedenceTraversal$Neighbours" "rangesSize" "I" (.int (0 : Int32))) (Gc : Fld Z h0 q "com/example/opacheck/opacheck/PrecedenceTraversal$Neighbours" "count" "I" (.int cnt)) (hn : Z.heap.size ≤ r) (hne : r ≠ q) (hnv : r ≠ v) (hb : 1 ≤ cnt.toInt ∧ cnt.toInt ≤ 8) :
    Met1 l Z (⟨"com/example/opacheck/opacheck/PrecedenceTraversal", "<init>", "(Lcom/example/opacheck/opacheck/PrecedenceTraversal$Neighbours;)V"⟩ : MethodName) prog_45_method_2_code 7 none ({ frames := 2, cells := 17, slots := 50, locals := 33 } : Room) #[(.ref r), (.ref q)] h0 (Q_ctg Z r q v k cnt h0) := by
  rcases own_c8 cnt hb.1 hb.2 with rfl | rfl | rfl | rfl | rfl | rfl | rfl | rfl
  · exact rm_ct1 l Z a0 hw r q v k h0 O0 E0 Fmembers Franges FvisitedIn Fpositions Flinks FlinkedIn Fpath Fnum Fsc Gm Am Gs Gr Gc hn hne hnv
  · exact rm_ct2 l Z a0 hw r q v k h0 O0 E0 Fmembers Franges FvisitedIn Fpositions Flinks FlinkedIn Fpath Fnum Fsc Gm Am Gs Gr Gc hn hne hnv
  · exact rm_ct3 l Z a0 hw r q v k h0 O0 E0 Fmembers Franges FvisitedIn Fpositions Flinks FlinkedIn Fpath Fnum Fsc Gm Am Gs Gr Gc hn hne hnv
  · exact rm_ct4 l Z a0 hw r q v k h0 O0 E0 Fmembers Franges FvisitedIn Fpositions Flinks FlinkedIn Fpath Fnum Fsc Gm Am Gs Gr Gc hn hne hnv
  · exact rm_ct5 l Z a0 hw r q v k h0 O0 E0 Fmembers Franges FvisitedIn Fpositions Flinks FlinkedIn Fpath Fnum Fsc Gm Am Gs Gr Gc hn hne hnv
  · exact rm_ct6 l Z a0 hw r q v k h0 O0 E0 Fmembers Franges FvisitedIn Fpositions Flinks FlinkedIn Fpath Fnum Fsc Gm Am Gs Gr Gc hn hne hnv
  · exact rm_ct7 l Z a0 hw r q v k h0 O0 E0 Fmembers Franges FvisitedIn Fpositions Flinks FlinkedIn Fpath Fnum Fsc Gm Am Gs Gr Gc hn hne hnv
  · exact rm_ct8 l Z a0 hw r q v k h0 O0 E0 Fmembers Franges FvisitedIn Fpositions Flinks FlinkedIn Fpath Fnum Fsc Gm Am Gs Gr Gc hn hne hnv
theorem pf_6 : plainFor (⟨"com/example/opacheck/opacheck/PrecedenceTraversal", "restart", "(Ljava/util/function/IntPredicate;)V"⟩ : MethodName) = true := plainFor_of_name (by first | (simp [plainName, overriddenIn]; done) | decide +kernel)
theorem d6_0 : decode prog_45_method_3_code 0 = .ok (.aload_n 0, 1) := by decide +kernel
theorem d6_1 : decode prog_45_method_3_code 1 = .ok (.dup, 1) := by decide +kernel
theorem d6_2 : decode prog_45_method_3_code 2 = .ok (.getfield 60, 3) := by decide +kernel
theorem d6_5 : decode prog_45_method_3_code 5 = .ok (.iconst 1, 1) := by decide +kernel
theorem d6_6 : decode prog_45_method_3_code 6 = .ok (.iadd, 1) := by decide +kernel
theorem d6_7 : decode prog_45_method_3_code 7 = .ok (.putfield 60, 3) := by decide +kernel
theorem d6_10 : decode prog_45_method_3_code 10 = .ok (.aload_n 0, 1) := by decide +kernel
theorem d6_11 : decode prog_45_method_3_code 11 = .ok (.aload_n 1, 1) := by decide +kernel
theorem d6_12 : decode prog_45_method_3_code 12 = .ok (.putfield 63, 3) := by decide +kernel
theorem d6_15 : decode prog_45_method_3_code 15 = .ok (.return_, 1) := by decide +kernel
def Q_rst (Z : State) (r : Addr) (num : Int32) (vi : Addr) (vp : Addr) (h0 : Heap) (rv : Option Value) (h : Heap) (L : List Loc) : Prop := rv = none ∧ Fr Z.heap.size L ∧ Keep h0 h [r] ∧ Fld Z h r "com/example/opacheck/opacheck/PrecedenceTraversal" "number" "I" (.int (num + (1 : Int32))) ∧ Fld Z h r "com/example/opacheck/opacheck/PrecedenceTraversal" "scope" "Ljava/util/function/IntPredicate;" .null ∧ Fld Z h r "com/example/opacheck/opacheck/PrecedenceTraversal" "visitedIn" "[I" (.ref vi) ∧ Fld Z h r "com/example/opacheck/opacheck/PrecedenceTraversal" "positions" "[I" (.ref vp)
set_option maxRecDepth 65536 in
set_option maxHeartbeats 40000000 in
theorem rm_rst (l : Launch) (Z : State) (a0 : Array Value) (hw : ∀ d ∈ tables_1, d.before a0 Z = true) (r : Addr) (num : Int32) (vi : Addr) (vp : Addr) (h0 : Heap) (O0 : Ext Z.heap h0) (E0 : Exa Z h0 r "com/example/opacheck/opacheck/PrecedenceTraversal") (Fn : Fld Z h0 r "com/example/opacheck/opacheck/PrecedenceTraversal" "number" "I" (.int num)) (Fs : Fld Z h0 r "com/example/opacheck/opacheck/PrecedenceTraversal" "scope" "Ljava/util/function/IntPredicate;" .null) (Fv : Fld Z h0 r "com/example/opacheck/opacheck/PrecedenceTraversal" "visitedIn" "[I" (.ref vi)) (Fp : Fld Z h0 r "com/example/opacheck/opacheck/PrecedenceTraversal" "positions" "[I" (.ref vp)) (hn : Z.heap.size ≤ r) :
    Met1 l Z (⟨"com/example/opacheck/opacheck/PrecedenceTraversal", "restart", "(Ljava/util/function/IntPredicate;)V"⟩ : MethodName) prog_45_method_3_code 2 none ({ frames := 0, cells := 0, slots := 0, locals := 0 } : Room) #[(.ref r), .null] h0 (Q_rst Z r num vi vp h0) := by
  refine Met1.of_body (Ls := #[.val (.ref r), .val .null]) pf_6 (fun m => by first | (simp [entryFrame, mkF, argsToLocals, Value.category]; done) | rfl) ?_
  intro p e s m below meth c T0 C X0 e0
  have N0 : Fr Z.heap.size [] := Fr.nil _
  refine Go.aloadN (pc' := 1) C X0 d6_0 rfl rfl rfl ?_
  refine Go.dup (pc' := 2) C X0 d6_1 rfl rfl ?_
  refine Go.getF (pc' := 5) (host := "") C X0 (Or.inl (hw _ (List.mem_of_getElem? (i := 64) rfl))) Via.refl e0 Fn d6_2 rfl ?_
  intro T101 X101 e101
  refine Go.iconst (z := (1 : Int32)) (pc' := 6) C X101 d6_5 rfl rfl ?_
  refine Go.iadd (pc' := 7) C X101 d6_6 rfl ?_
  refine Go.putF (pc' := 10) (host := "") (ty := .int) C X101 (Or.inl (hw _ (List.mem_of_getElem? (i := 64) rfl))) Via.refl e101 Fn E0 (Or.inl (hw _ (List.mem_of_getElem? (i := 65) rfl))) (hw _ (List.mem_of_getElem? (i := 18) rfl)) (by decide) rfl rfl d6_7 rfl ?_
  intro T102 h102 X102 e102 W102 F102
  have N102 := Fr.snoc X102 N0 hn
  refine Go.aloadN (pc' := 11) C X102 d6_10 rfl rfl rfl ?_
  refine Go.aloadN (pc' := 12) C X102 d6_11 rfl rfl rfl ?_
  have c104 : Fld Z h102 r "com/example/opacheck/opacheck/PrecedenceTraversal" "scope" "Ljava/util/function/IntPredicate;" .null := (Fld.other W102 Fs (Or.inr (slot_ne (Or.inl (hw _ (List.mem_of_getElem? (i := 67) rfl))) (Or.inl (hw _ (List.mem_of_getElem? (i := 65) rfl))) (by decide) (t := (.object "java/util/function/IntPredicate")) (t' := .int) (by decide) (by decide))))
  have c105 : Exa Z h102 r "com/example/opacheck/opacheck/PrecedenceTraversal" := (Exa.wr W102 E0)
  refine Go.putF (pc' := 15) (host := "") (ty := (.object "java/util/function/IntPredicate")) C X102 (Or.inl (hw _ (List.mem_of_getElem? (i := 66) rfl))) Via.refl e102 c104 c105 (Or.inl (hw _ (List.mem_of_getElem? (i := 67) rfl))) (hw _ (List.mem_of_getElem? (i := 18) rfl)) (by decide) rfl rfl d6_12 rfl ?_
  intro T103 h103 X103 e103 W103 F103
  have N103 := Fr.snoc X103 N102 hn
  have K106 : Keep h0 h103 [r] := (((Keep.refl h0 [r]).wr W102 (Or.inl (by simp))).wr W103 (Or.inl (by simp)))
  have c107 : Fld Z h103 r "com/example/opacheck/opacheck/PrecedenceTraversal" "number" "I" (.int (num + (1 : Int32))) := (Fld.other W103 F102 (Or.inr (slot_ne (Or.inl (hw _ (List.mem_of_getElem? (i := 65) rfl))) (Or.inl (hw _ (List.mem_of_getElem? (i := 67) rfl))) (by decide) (t := .int) (t' := (.object "java/util/function/IntPredicate")) (by decide) (by decide))))
  have c108 : Fld Z h103 r "com/example/opacheck/opacheck/PrecedenceTraversal" "visitedIn" "[I" (.ref vi) := (Fld.other W103 (Fld.other W102 Fv (Or.inr (slot_ne (Or.inr (hw _ (List.mem_of_getElem? (i := 50) rfl))) (Or.inl (hw _ (List.mem_of_getElem? (i := 65) rfl))) (by decide) (t := (.array .int)) (t' := .int) (by decide) (by decide)))) (Or.inr (slot_ne (Or.inr (hw _ (List.mem_of_getElem? (i := 50) rfl))) (Or.inl (hw _ (List.mem_of_getElem? (i := 67) rfl))) (by decide) (t := (.array .int)) (t' := (.object "java/util/function/IntPredicate")) (by decide) (by decide))))
  have c109 : Fld Z h103 r "com/example/opacheck/opacheck/PrecedenceTraversal" "positions" "[I" (.ref vp) := (Fld.other W103 (Fld.other W102 Fp (Or.inr (slot_ne (Or.inr (hw _ (List.mem_of_getElem? (i := 52) rfl))) (Or.inl (hw _ (List.mem_of_getElem? (i := 65) rfl))) (by decide) (t := (.array .int)) (t' := .int) (by decide) (by decide)))) (Or.inr (slot_ne (Or.inr (hw _ (List.mem_of_getElem? (i := 52) rfl))) (Or.inl (hw _ (List.mem_of_getElem? (i := 67) rfl))) (by decide) (t := (.array .int)) (t' := (.object "java/util/function/IntPredicate")) (by decide) (by decide))))
  exact Go.retV C X103 rfl d6_15 (by rw [e103]; exact ⟨rfl, N103, K106, c107, F103, c108, c109⟩) (by decide) (by decide)
theorem pf_7 : plainFor (⟨"com/example/opacheck/opacheck/PrecedenceTraversal", "visited", "(I)Z"⟩ : MethodName) = true := plainFor_of_name (by first | (simp [plainName, overriddenIn]; done) | decide +kernel)
theorem d7_0 : decode prog_45_method_4_code 0 = .ok (.aload_n 0, 1) := by decide +kernel
theorem d7_1 : decode prog_45_method_4_code 1 = .ok (.getfield 45, 3) := by decide +kernel
theorem d7_4 : decode prog_45_method_4_code 4 = .ok (.iload_n 1, 1) := by decide +kernel
theorem d7_5 : decode prog_45_method_4_code 5 = .ok (.iaload, 1) := by decide +kernel
theorem d7_6 : decode prog_45_method_4_code 6 = .ok (.aload_n 0, 1) := by decide +kernel
theorem d7_7 : decode prog_45_method_4_code 7 = .ok (.getfield 60, 3) := by decide +kernel
theorem d7_10 : decode prog_45_method_4_code 10 = .ok (.if_icmp .ne 7, 3) := by decide +kernel
theorem d7_13 : decode prog_45_method_4_code 13 = .ok (.iconst 1, 1) := by decide +kernel
theorem d7_14 : decode prog_45_method_4_code 14 = .ok (.goto 4, 3) := by decide +kernel
theorem d7_18 : decode prog_45_method_4_code 18 = .ok (.ireturn, 1) := by decide +kernel
def Q_vdT (Z : State) (r : Addr) (t : Int32) (num : Int32) (vi : Addr) (ki : ClassId) (vs : List Value) (x : Int32) (h0 : Heap) (rv : Option Value) (h : Heap) (L : List Loc) : Prop := rv = some (.int (1 : Int32)) ∧ L = [] ∧ h = h0
set_option maxRecDepth 65536 in
set_option maxHeartbeats 40000000 in
theorem rm_vdT (l : Launch) (Z : State) (a0 : Array Value) (hw : ∀ d ∈ tables_1, d.before a0 Z = true) (r : Addr) (t : Int32) (num : Int32) (vi : Addr) (ki : ClassId) (vs : List Value) (x : Int32) (h0 : Heap) (O0 : Ext Z.heap h0) (Fn : Fld Z h0 r "com/example/opacheck/opacheck/PrecedenceTraversal" "number" "I" (.int num)) (Fv : Fld Z h0 r "com/example/opacheck/opacheck/PrecedenceTraversal" "visitedIn" "[I" (.ref vi)) (Ai : AL Z h0 vi ki .int vs) (ht : ¬ t < 0) (hv : vs[t.toNatClampNeg]? = some (.int x)) (hx : x = num) :
    Met1 l Z (⟨"com/example/opacheck/opacheck/PrecedenceTraversal", "visited", "(I)Z"⟩ : MethodName) prog_45_method_4_code 2 (some .boolean) ({ frames := 0, cells := 0, slots := 0, locals := 0 } : Room) #[(.ref r), (.int t)] h0 (Q_vdT Z r t num vi ki vs x h0) := by
  refine Met1.of_body (Ls := #[.val (.ref r), .val (.int t)]) pf_7 (fun m => by first | (simp [entryFrame, mkF, argsToLocals, Value.category]; done) | rfl) ?_
  intro p e s m below meth c T0 C X0 e0
  have N0 : Fr Z.heap.size [] := Fr.nil _
  refine Go.aloadN (pc' := 1) C X0 d7_0 rfl rfl rfl ?_
  refine Go.getF (pc' := 4) (host := "") C X0 (Or.inl (hw _ (List.mem_of_getElem? (i := 49) rfl))) Via.refl e0 Fv d7_1 rfl ?_
  intro T101 X101 e101
  refine Go.iloadN (pc' := 5) C X101 d7_4 rfl rfl ?_
  refine Go.ldI (i := t.toNatClampNeg) (v := (.int x)) (pc' := 6) C X101 e101 Ai ht rfl hv d7_5 rfl ?_
  refine Go.aloadN (pc' := 7) C X101 d7_6 rfl rfl rfl ?_
  refine Go.getF (pc' := 10) (host := "") C X101 (Or.inl (hw _ (List.mem_of_getElem? (i := 64) rfl))) Via.refl e101 Fn d7_7 rfl ?_
  intro T102 X102 e102
  refine Go.icmpNo (pc' := 13) C X102 d7_10 (teq (x := x) (y := num) hx).2 rfl ?_
  refine Go.iconst (z := (1 : Int32)) (pc' := 14) C X102 d7_13 rfl rfl ?_
  refine Go.goto (pc' := 18) C X102 d7_14 (by decide) (by decide) ?_
  exact Go.retN C X102 rfl d7_18 (by simp) (by rw [e102]; exact ⟨rfl, rfl, rfl⟩) (by decide) (by decide)
theorem d7_17 : decode prog_45_method_4_code 17 = .ok (.iconst 0, 1) := by decide +kernel
def Q_vdF (Z : State) (r : Addr) (t : Int32) (num : Int32) (vi : Addr) (ki : ClassId) (vs : List Value) (x : Int32) (h0 : Heap) (rv : Option Value) (h : Heap) (L : List Loc) : Prop := rv = some (.int (0 : Int32)) ∧ L = [] ∧ h = h0
set_option maxRecDepth 65536 in
set_option maxHeartbeats 40000000 in
theorem rm_vdF (l : Launch) (Z : State) (a0 : Array Value) (hw : ∀ d ∈ tables_1, d.before a0 Z = true) (r : Addr) (t : Int32) (num : Int32) (vi : Addr) (ki : ClassId) (vs : List Value) (x : Int32) (h0 : Heap) (O0 : Ext Z.heap h0) (Fn : Fld Z h0 r "com/example/opacheck/opacheck/PrecedenceTraversal" "number" "I" (.int num)) (Fv : Fld Z h0 r "com/example/opacheck/opacheck/PrecedenceTraversal" "visitedIn" "[I" (.ref vi)) (Ai : AL Z h0 vi ki .int vs) (ht : ¬ t < 0) (hv : vs[t.toNatClampNeg]? = some (.int x)) (hx : ¬ x = num) :
    Met1 l Z (⟨"com/example/opacheck/opacheck/PrecedenceTraversal", "visited", "(I)Z"⟩ : MethodName) prog_45_method_4_code 2 (some .boolean) ({ frames := 0, cells := 0, slots := 0, locals := 0 } : Room) #[(.ref r), (.int t)] h0 (Q_vdF Z r t num vi ki vs x h0) := by
  refine Met1.of_body (Ls := #[.val (.ref r), .val (.int t)]) pf_7 (fun m => by first | (simp [entryFrame, mkF, argsToLocals, Value.category]; done) | rfl) ?_
  intro p e s m below meth c T0 C X0 e0
  have N0 : Fr Z.heap.size [] := Fr.nil _
  refine Go.aloadN (pc' := 1) C X0 d7_0 rfl rfl rfl ?_
  refine Go.getF (pc' := 4) (host := "") C X0 (Or.inl (hw _ (List.mem_of_getElem? (i := 49) rfl))) Via.refl e0 Fv d7_1 rfl ?_
  intro T101 X101 e101
  refine Go.iloadN (pc' := 5) C X101 d7_4 rfl rfl ?_
  refine Go.ldI (i := t.toNatClampNeg) (v := (.int x)) (pc' := 6) C X101 e101 Ai ht rfl hv d7_5 rfl ?_
  refine Go.aloadN (pc' := 7) C X101 d7_6 rfl rfl rfl ?_
  refine Go.getF (pc' := 10) (host := "") C X101 (Or.inl (hw _ (List.mem_of_getElem? (i := 64) rfl))) Via.refl e101 Fn d7_7 rfl ?_
  intro T102 X102 e102
  refine Go.icmpYes (pc' := 17) C X102 d7_10 (feq (x := x) (y := num) hx).2 (by decide) (by decide) ?_
  refine Go.iconst (z := (0 : Int32)) (pc' := 18) C X102 d7_17 rfl rfl ?_
  exact Go.retN C X102 rfl d7_18 (by simp) (by rw [e102]; exact ⟨rfl, rfl, rfl⟩) (by decide) (by decide)
theorem pf_8 : plainFor (⟨"com/example/opacheck/opacheck/PrecedenceTraversal", "visit", "(I)V"⟩ : MethodName) = true := plainFor_of_name (by first | (simp [plainName, overriddenIn]; done) | decide +kernel)
theorem d8_0 : decode prog_45_method_5_code 0 = .ok (.aload_n 0, 1) := by decide +kernel
theorem d8_1 : decode prog_45_method_5_code 1 = .ok (.getfield 45, 3) := by decide +kernel
theorem d8_4 : decode prog_45_method_5_code 4 = .ok (.iload_n 1, 1) := by decide +kernel
theorem d8_5 : decode prog_45_method_5_code 5 = .ok (.aload_n 0, 1) := by decide +kernel
theorem d8_6 : decode prog_45_method_5_code 6 = .ok (.getfield 60, 3) := by decide +kernel
theorem d8_9 : decode prog_45_method_5_code 9 = .ok (.iastore, 1) := by decide +kernel
theorem d8_10 : decode prog_45_method_5_code 10 = .ok (.aload_n 0, 1) := by decide +kernel
theorem d8_11 : decode prog_45_method_5_code 11 = .ok (.getfield 48, 3) := by decide +kernel
theorem d8_14 : decode prog_45_method_5_code 14 = .ok (.iload_n 1, 1) := by decide +kernel
theorem d8_15 : decode prog_45_method_5_code 15 = .ok (.iconst 0, 1) := by decide +kernel
theorem d8_16 : decode prog_45_method_5_code 16 = .ok (.iastore, 1) := by decide +kernel
theorem d8_17 : decode prog_45_method_5_code 17 = .ok (.return_, 1) := by decide +kernel
def Q_vis (Z : State) (r : Addr) (t : Int32) (num : Int32) (vi : Addr) (ki : ClassId) (vs : List Value) (vp : Addr) (kp : ClassId) (us : List Value) (n : Nat) (h0 : Heap) (rv : Option Value) (h : Heap) (L : List Loc) : Prop := rv = none ∧ Fr Z.heap.size L ∧ Keep h0 h [vi, vp] ∧ AL Z h vi ki .int (vs.set t.toNatClampNeg (.int num)) ∧ AL Z h vp kp .int (us.set t.toNatClampNeg (.int (0 : Int32)))
set_option maxRecDepth 65536 in
set_option maxHeartbeats 40000000 in
theorem rm_vis (l : Launch) (Z : State) (a0 : Array Value) (hw : ∀ d ∈ tables_1, d.before a0 Z = true) (r : Addr) (t : Int32) (num : Int32) (vi : Addr) (ki : ClassId) (vs : List Value) (vp : Addr) (kp : ClassId) (us : List Value) (n : Nat) (h0 : Heap) (O0 : Ext Z.heap h0) (Fn : Fld Z h0 r "com/example/opacheck/opacheck/PrecedenceTraversal" "number" "I" (.int num)) (Fv : Fld Z h0 r "com/example/opacheck/opacheck/PrecedenceTraversal" "visitedIn" "[I" (.ref vi)) (Ai : AL Z h0 vi ki .int vs) (Fp : Fld Z h0 r "com/example/opacheck/opacheck/PrecedenceTraversal" "positions" "[I" (.ref vp)) (Ap : AL Z h0 vp kp .int us) (ht : ¬ t < 0) (hl : vs.length = n) (hl2 : us.length = n) (hb : t.toNatClampNeg < n) (hni : Z.heap.size ≤ vi) (hnp : Z.heap.size ≤ vp) (hne : vi ≠ vp) (hri : r ≠ vi) (hrp : r ≠ vp) :
    Met1 l Z (⟨"com/example/opacheck/opacheck/PrecedenceTraversal", "visit", "(I)V"⟩ : MethodName) prog_45_method_5_code 2 none ({ frames := 0, cells := 0, slots := 0, locals := 0 } : Room) #[(.ref r), (.int t)] h0 (Q_vis Z r t num vi ki vs vp kp us n h0) := by
  refine Met1.of_body (Ls := #[.val (.ref r), .val (.int t)]) pf_8 (fun m => by first | (simp [entryFrame, mkF, argsToLocals, Value.category]; done) | rfl) ?_
  intro p e s m below meth c T0 C X0 e0
  have N0 : Fr Z.heap.size [] := Fr.nil _
  refine Go.aloadN (pc' := 1) C X0 d8_0 rfl rfl rfl ?_
  refine Go.getF (pc' := 4) (host := "") C X0 (Or.inl (hw _ (List.mem_of_getElem? (i := 49) rfl))) Via.refl e0 Fv d8_1 rfl ?_
  intro T101 X101 e101
  refine Go.iloadN (pc' := 5) C X101 d8_4 rfl rfl ?_
  refine Go.aloadN (pc' := 6) C X101 d8_5 rfl rfl rfl ?_
  refine Go.getF (pc' := 9) (host := "") C X101 (Or.inl (hw _ (List.mem_of_getElem? (i := 64) rfl))) Via.refl e101 Fn d8_6 rfl ?_
  intro T102 X102 e102
  refine Go.stI (i := t.toNatClampNeg) (x' := num) (vs' := (vs.set t.toNatClampNeg (.int num))) (pc' := 10) C X102 e102 Ai ht rfl (by rw [hl]; exact hb) rfl rfl d8_9 rfl ?_
  intro T103 h103 X103 e103 W103 A103
  have N103 := Fr.snoc X103 N0 hni
  refine Go.aloadN (pc' := 11) C X103 d8_10 rfl rfl rfl ?_
  have c105 : Fld Z h103 r "com/example/opacheck/opacheck/PrecedenceTraversal" "positions" "[I" (.ref vp) := (Fld.other W103 Fp (Or.inl hri))
  refine Go.getF (pc' := 14) (host := "") C X103 (Or.inl (hw _ (List.mem_of_getElem? (i := 51) rfl))) Via.refl e103 c105 d8_11 rfl ?_
  intro T104 X104 e104
  refine Go.iloadN (pc' := 15) C X104 d8_14 rfl rfl ?_
  refine Go.iconst (z := (0 : Int32)) (pc' := 16) C X104 d8_15 rfl rfl ?_
  have c106 : AL Z h103 vp kp .int us := (AL.other W103 Ap (Ne.symm hne))
  refine Go.stI (i := t.toNatClampNeg) (x' := (0 : Int32)) (vs' := (us.set t.toNatClampNeg (.int (0 : Int32)))) (pc' := 17) C X104 e104 c106 ht rfl (by rw [hl2]; exact hb) rfl rfl d8_16 rfl ?_
  intro T107 h107 X107 e107 W107 A107
  have N107 := Fr.snoc X107 N103 hnp
  have K108 : Keep h0 h107 [vi, vp] := (((Keep.refl h0 [vi, vp]).wr W103 (Or.inl (by simp))).wr W107 (Or.inl (by simp)))
  have c109 : AL Z h107 vi ki .int (vs.set t.toNatClampNeg (.int num)) := (AL.other W107 A103 hne)
  exact Go.retV C X107 rfl d8_17 (by rw [e107]; exact ⟨rfl, N107, K108, c109, A107⟩) (by decide) (by decide)
theorem own_cnt (d : Int32) : 1 ≤ ((1 : Int32) + (d &&& (7 : Int32))).toInt ∧ ((1 : Int32) + (d &&& (7 : Int32))).toInt ≤ 8 := by
  have h1 := c_mask d (7 : Int32) 3 (by decide) (by decide)
  have h2 := c_iadd (1 : Int32) (d &&& (7 : Int32))
  have h3 := rng32 ((1 : Int32) + (d &&& (7 : Int32)))
  simp only [Int32.reduceToInt] at h2
  omega
theorem own_rem (a c : Int32) (hc : 1 ≤ c.toInt ∧ c.toInt ≤ 8) : ¬ (a &&& (2147483647 : Int32)) % c < 0 ∧ ((a &&& (2147483647 : Int32)) % c).toNatClampNeg < c.toNatClampNeg := by
  have h1 := c_mask a (2147483647 : Int32) 31 (by decide) (by decide)
  have h3 : 0 ≤ (a &&& (2147483647 : Int32)).toInt := by rw [h1]; omega
  have h2 := (c_iremV (a &&& (2147483647 : Int32)) c).1 h3 (by omega)
  rw [Int32.lt_iff_toInt_lt]
  simp only [Int32.toNatClampNeg, Int32.reduceToInt]
  omega
theorem own_c0 {c : Int32} (hc : 1 ≤ c.toInt ∧ c.toInt ≤ 8) : c ≠ 0 := fun e => by rw [e] at hc; simp at hc
theorem own_at (n i : Nat) (h : i < n) : (List.replicate n (Value.int 0))[i]? = some (.int (0 : Int32)) := by simp [h]
theorem own_nat {t u : Int32} (ht : ¬ t < 0) (hu : ¬ u < 0) (h : ¬ t = u) : t.toNatClampNeg ≠ u.toNatClampNeg := fun e => h (by
  rw [Int32.lt_iff_toInt_lt] at ht hu
  simp only [Int32.toNatClampNeg, Int32.reduceToInt] at *
  exact Int32.toInt_inj.mp (by omega))
theorem own_hit {vs : List Value} {t u : Int32} {v : Value} (e : t = u) (h : t.toNatClampNeg < vs.length) : (vs.set u.toNatClampNeg v)[t.toNatClampNeg]? = some v := by subst e; simp [h]
theorem own_miss {vs : List Value} {t u : Int32} {v w : Value} (ht : ¬ t < 0) (hu : ¬ u < 0) (e : ¬ t = u) (h : vs[t.toNatClampNeg]? = some w) : (vs.set u.toNatClampNeg v)[t.toNatClampNeg]? = some w := by
  rw [List.getElem?_set_ne (fun q => own_nat ht hu e q.symm)]; exact h
theorem pd_2 : parseMethodDescriptor "(I)V" = some ⟨[.int], none⟩ := by decide +kernel
theorem pd_3 : parseMethodDescriptor "(Lcom/example/opacheck/opacheck/PrecedenceTraversal$Neighbours;)V" = some ⟨[(.object "com/example/opacheck/opacheck/PrecedenceTraversal$Neighbours")], none⟩ := by decide +kernel
theorem pd_4 : parseMethodDescriptor "(Ljava/util/function/IntPredicate;)V" = some ⟨[(.object "java/util/function/IntPredicate")], none⟩ := by decide +kernel
theorem pd_5 : parseMethodDescriptor "(I)Z" = some ⟨[.int], some .boolean⟩ := by decide +kernel
theorem pf_0 : plainFor x = true := plainFor_of_name (by first | (simp [plainName, overriddenIn, x]; done) | decide +kernel)
def Q_law (Z : State) (p1 : Int32) (p2 : Int32) (p3 : Int32) (p4 : Int32) (p5 : Int32) (h0 : Heap) (rv : Option Value) (h : Heap) (L : List Loc) : Prop := rv = some (.int (1 : Int32)) ∧ Fr Z.heap.size L ∧ Keep h0 h []
set_option maxRecDepth 65536 in
set_option maxHeartbeats 40000000 in
theorem rm_law (l : Launch) (Z : State) (a0 : Array Value) (hw : ∀ d ∈ tables_1, d.before a0 Z = true) (p1 : Int32) (p2 : Int32) (p3 : Int32) (p4 : Int32) (p5 : Int32) (h0 : Heap) (O0 : Ext Z.heap h0) :
    Met1 l Z x code maxLocals ret room_1 #[(.int p1), (.int p2), (.int p3), (.int p4), (.int p5)] h0 (Q_law Z p1 p2 p3 p4 p5 h0) := by
  refine Met1.of_body (Ls := #[.val (.int p1), .val (.int p2), .val (.int p3), .val (.int p4), .val (.int p5), .unset, .unset, .unset, .unset, .unset, .unset, .unset, .unset, .unset, .unset, .unset]) pf_0 (fun m => by first | (simp [entryFrame, mkF, argsToLocals, Value.category, maxLocals]; done) | rfl) ?_
  intro p e s m below meth c T0 C X0 e0
  have N0 : Fr Z.heap.size [] := Fr.nil _
  refine Go.iconst (z := (1 : Int32)) (pc' := 1) C X0 at_0 rfl rfl ?_
  refine Go.iloadN (pc' := 2) C X0 at_1 rfl rfl ?_
  refine Go.bipush (z := (7 : Int32)) (pc' := 4) C X0 at_2 rfl rfl ?_
  refine Go.iand (pc' := 5) C X0 at_4 rfl ?_
  refine Go.iadd (pc' := 6) C X0 at_5 rfl ?_
  refine Go.istore (Ls' := #[.val (.int p1), .val (.int p2), .val (.int p3), .val (.int p4), .val (.int p5), .val (.int ((1 : Int32) + (p4 &&& (7 : Int32)))), .unset, .unset, .unset, .unset, .unset, .unset, .unset, .unset, .unset, .unset]) (pc' := 8) C X0 at_6 rfl rfl ?_
  have hcnt := own_cnt p4
  generalize ((1 : Int32) + (p4 &&& (7 : Int32))) = cnt at hcnt ⊢
  refine Go.iloadN (pc' := 9) C X0 at_8 rfl rfl ?_
  refine Go.ldcI (pc' := 11) C X0 at_9 (hw _ (List.mem_of_getElem? (i := 0) rfl)) rfl ?_
  refine Go.iand (pc' := 12) C X0 at_11 rfl ?_
  refine Go.iload (pc' := 14) C X0 at_12 rfl rfl ?_
  refine Go.irem (pc' := 15) C X0 at_14 (own_c0 hcnt) rfl ?_
  refine Go.istore (Ls' := #[.val (.int p1), .val (.int p2), .val (.int p3), .val (.int p4), .val (.int p5), .val (.int cnt), .val (.int ((p1 &&& (2147483647 : Int32)) % cnt)), .unset, .unset, .unset, .unset, .unset, .unset, .unset, .unset, .unset]) (pc' := 17) C X0 at_15 rfl rfl ?_
  obtain ⟨get, ltt⟩ := own_rem p1 cnt hcnt
  generalize ((p1 &&& (2147483647 : Int32)) % cnt) = t at get ltt ⊢
  refine Go.iloadN (pc' := 18) C X0 at_17 rfl rfl ?_
  refine Go.ldcI (pc' := 20) C X0 at_18 (hw _ (List.mem_of_getElem? (i := 0) rfl)) rfl ?_
  refine Go.iand (pc' := 21) C X0 at_20 rfl ?_
  refine Go.iload (pc' := 23) C X0 at_21 rfl rfl ?_
  refine Go.irem (pc' := 24) C X0 at_23 (own_c0 hcnt) rfl ?_
  refine Go.istore (Ls' := #[.val (.int p1), .val (.int p2), .val (.int p3), .val (.int p4), .val (.int p5), .val (.int cnt), .val (.int t), .val (.int ((p2 &&& (2147483647 : Int32)) % cnt)), .unset, .unset, .unset, .unset, .unset, .unset, .unset, .unset]) (pc' := 26) C X0 at_24 rfl rfl ?_
  obtain ⟨geu, ltu⟩ := own_rem p2 cnt hcnt
  generalize ((p2 &&& (2147483647 : Int32)) % cnt) = u at geu ltu ⊢
  refine Go.iloadN (pc' := 27) C X0 at_26 rfl rfl ?_
  refine Go.ldcI (pc' := 29) C X0 at_27 (hw _ (List.mem_of_getElem? (i := 0) rfl)) rfl ?_
  refine Go.iand (pc' := 30) C X0 at_29 rfl ?_
  refine Go.iload (pc' := 32) C X0 at_30 rfl rfl ?_
  refine Go.irem (pc' := 33) C X0 at_32 (own_c0 hcnt) rfl ?_
  refine Go.istore (Ls' := #[.val (.int p1), .val (.int p2), .val (.int p3), .val (.int p4), .val (.int p5), .val (.int cnt), .val (.int t), .val (.int u), .val (.int ((p3 &&& (2147483647 : Int32)) % cnt)), .unset, .unset, .unset, .unset, .unset, .unset, .unset]) (pc' := 35) C X0 at_33 rfl rfl ?_
  obtain ⟨gew, ltw⟩ := own_rem p3 cnt hcnt
  generalize ((p3 &&& (2147483647 : Int32)) % cnt) = w at gew ltw ⊢
  by_cases htu : t = u
  · by_cases htw : t = w
    · refine Go.iload (pc' := 37) C X0 at_35 rfl rfl ?_
      refine Go.iconst (z := (1 : Int32)) (pc' := 38) C X0 at_37 rfl rfl ?_
      refine Go.iand (pc' := 39) C X0 at_38 rfl ?_
      by_cases hc39_101 : (p5 &&& (1 : Int32)) = (0 : Int32)
      · refine Go.ifYes (pc' := 46) C X0 at_39 ((if0 _ _).trans (teq (x := (p5 &&& (1 : Int32))) (y := (0 : Int32)) hc39_101).1) (by decide) (by decide) ?_
        refine Go.iconst (z := (0 : Int32)) (pc' := 47) C X0 at_46 rfl rfl ?_
        refine Go.istore (Ls' := #[.val (.int p1), .val (.int p2), .val (.int p3), .val (.int p4), .val (.int p5), .val (.int cnt), .val (.int t), .val (.int u), .val (.int w), .val (.int (0 : Int32)), .unset, .unset, .unset, .unset, .unset, .unset]) (pc' := 49) C X0 at_47 rfl rfl ?_
        refine Go.newO (pc' := 52) C X0 (hw _ (List.mem_of_getElem? (i := 1) rfl)) (hw _ (List.mem_of_getElem? (i := 2) rfl)) (hw _ (List.mem_of_getElem? (i := 3) rfl)) e0 (by decide) (by decide) at_49 rfl ?_
        intro T102 h102 b102 X102 e102 g102 E102 A102 D102
        have n_b102 : Z.heap.size ≤ b102 := Nat.le_trans O0.1 (Nat.le_of_eq g102.symm)
        have z_b102 : h0.size ≤ b102 := Nat.le_trans (Nat.le_refl _) (Nat.le_of_eq g102.symm)
        have F102_members : Fld Z h102 b102 "com/example/opacheck/opacheck/PrecedenceTraversal$Neighbours" "members" "[I" .null := D102 (Or.inl (hw _ (List.mem_of_getElem? (i := 12) rfl))) (ty := (.array .int)) (by decide)
        have F102_ranges : Fld Z h102 b102 "com/example/opacheck/opacheck/PrecedenceTraversal$Neighbours" "ranges" "[I" .null := D102 (Or.inl (hw _ (List.mem_of_getElem? (i := 14) rfl))) (ty := (.array .int)) (by decide)
        have F102_count : Fld Z h102 b102 "com/example/opacheck/opacheck/PrecedenceTraversal$Neighbours" "count" "I" (.int (0 : Int32)) := D102 (Or.inr (hw _ (List.mem_of_getElem? (i := 16) rfl))) (ty := .int) (by decide)
        have F102_size : Fld Z h102 b102 "com/example/opacheck/opacheck/PrecedenceTraversal$Neighbours" "size" "I" (.int (0 : Int32)) := D102 (Or.inl (hw _ (List.mem_of_getElem? (i := 27) rfl))) (ty := .int) (by decide)
        have F102_rangesSize : Fld Z h102 b102 "com/example/opacheck/opacheck/PrecedenceTraversal$Neighbours" "rangesSize" "I" (.int (0 : Int32)) := D102 (Or.inl (hw _ (List.mem_of_getElem? (i := 43) rfl))) (ty := .int) (by decide)
        refine Go.dup (pc' := 53) C X102 at_52 rfl rfl ?_
        refine Go.iload (pc' := 55) C X102 at_53 rfl rfl ?_
        have O104 : Ext Z.heap h102 := (Ext.trans O0 E102)
        refine Go.callI (y := (⟨"com/example/opacheck/opacheck/PrecedenceTraversal$Neighbours", "<init>", "(I)V"⟩ : MethodName)) (a := b102) (pc' := 58) C X102 rfl (hw _ (List.mem_of_getElem? (i := 4) rfl)) (hw _ (List.mem_of_getElem? (i := 5) rfl)) (by decide) (rm_nb l Z a0 hw b102 cnt h102 O104 A102 F102_members F102_ranges F102_count F102_size F102_rangesSize n_b102) (hw _ (List.mem_of_getElem? (i := 6) rfl)) (hw _ (List.mem_of_getElem? (i := 3) rfl)) e102 (argsL := [(.int cnt)]) (rest := [(.ref b102)]) (W := 1) rfl rfl pd_2 rfl (Nat.le_of_eq rfl) rfl (by decide) (by decide) (by decide) (by decide) rfl at_55 rfl ?_
        intro T103 v103 L103 X103 q103
        obtain ⟨v_103, k_103, rfl, N103q, K103, B103_0, P103_0, P103_1, P103_2, P103_3, P103_4⟩ := q103
        have N103 := Fr.app N0 N103q
        have n_v_103 : Z.heap.size ≤ v_103 := Nat.le_trans O104.1 B103_0
        have z_v_103 : h0.size ≤ v_103 := Nat.le_trans (Nat.le_trans (Nat.le_refl _) E102.1) B103_0
        refine Go.astore (Ls' := #[.val (.int p1), .val (.int p2), .val (.int p3), .val (.int p4), .val (.int p5), .val (.int cnt), .val (.int t), .val (.int u), .val (.int w), .val (.int (0 : Int32)), .val (.ref b102), .unset, .unset, .unset, .unset, .unset]) (pc' := 60) C X103 at_58 rfl rfl rfl ?_
        have O106 : Ext Z.heap T103.heap := (Ext.keep O104 K103 (allS n_b102 all0))
        refine Go.newO (pc' := 63) C X103 (hw _ (List.mem_of_getElem? (i := 17) rfl)) (hw _ (List.mem_of_getElem? (i := 18) rfl)) (hw _ (List.mem_of_getElem? (i := 19) rfl)) rfl (by decide) (by decide) at_60 rfl ?_
        intro T105 h105 b105 X105 e105 g105 E105 A105 D105
        have n_b105 : Z.heap.size ≤ b105 := Nat.le_trans O106.1 (Nat.le_of_eq g105.symm)
        have z_b105 : h0.size ≤ b105 := Nat.le_trans (Nat.le_trans (Nat.le_trans (Nat.le_refl _) E102.1) K103.1) (Nat.le_of_eq g105.symm)
        have F105_members : Fld Z h105 b105 "com/example/opacheck/opacheck/PrecedenceTraversal" "members" "[I" .null := D105 (Or.inr (hw _ (List.mem_of_getElem? (i := 41) rfl))) (ty := (.array .int)) (by decide)
        have F105_ranges : Fld Z h105 b105 "com/example/opacheck/opacheck/PrecedenceTraversal" "ranges" "[[I" .null := D105 (Or.inr (hw _ (List.mem_of_getElem? (i := 47) rfl))) (ty := (.array (.array .int))) (by decide)
        have F105_visitedIn : Fld Z h105 b105 "com/example/opacheck/opacheck/PrecedenceTraversal" "visitedIn" "[I" .null := D105 (Or.inr (hw _ (List.mem_of_getElem? (i := 50) rfl))) (ty := (.array .int)) (by decide)
        have F105_positions : Fld Z h105 b105 "com/example/opacheck/opacheck/PrecedenceTraversal" "positions" "[I" .null := D105 (Or.inr (hw _ (List.mem_of_getElem? (i := 52) rfl))) (ty := (.array .int)) (by decide)
        have F105_links : Fld Z h105 b105 "com/example/opacheck/opacheck/PrecedenceTraversal" "links" "[I" .null := D105 (Or.inr (hw _ (List.mem_of_getElem? (i := 54) rfl))) (ty := (.array .int)) (by decide)
        have F105_linkedIn : Fld Z h105 b105 "com/example/opacheck/opacheck/PrecedenceTraversal" "linkedIn" "[I" .null := D105 (Or.inr (hw _ (List.mem_of_getElem? (i := 56) rfl))) (ty := (.array .int)) (by decide)
        have F105_path : Fld Z h105 b105 "com/example/opacheck/opacheck/PrecedenceTraversal" "path" "[I" .null := D105 (Or.inr (hw _ (List.mem_of_getElem? (i := 58) rfl))) (ty := (.array .int)) (by decide)
        have F105_number : Fld Z h105 b105 "com/example/opacheck/opacheck/PrecedenceTraversal" "number" "I" (.int (0 : Int32)) := D105 (Or.inl (hw _ (List.mem_of_getElem? (i := 65) rfl))) (ty := .int) (by decide)
        have F105_scope : Fld Z h105 b105 "com/example/opacheck/opacheck/PrecedenceTraversal" "scope" "Ljava/util/function/IntPredicate;" .null := D105 (Or.inl (hw _ (List.mem_of_getElem? (i := 67) rfl))) (ty := (.object "java/util/function/IntPredicate")) (by decide)
        refine Go.dup (pc' := 64) C X105 at_63 rfl rfl ?_
        refine Go.aload (pc' := 66) C X105 at_64 rfl rfl rfl ?_
        have c108 : Fld Z h105 b102 "com/example/opacheck/opacheck/PrecedenceTraversal$Neighbours" "members" "[I" (.ref v_103) := (Fld.ext E105 P103_0)
        have c109 : AL Z h105 v_103 k_103 .int [(.int (0 : Int32)), (.int (0 : Int32)), (.int (0 : Int32)), (.int (0 : Int32)), (.int (0 : Int32)), (.int (0 : Int32)), (.int (0 : Int32)), (.int (0 : Int32)), (.int (0 : Int32)), (.int (0 : Int32)), (.int (0 : Int32)), (.int (0 : Int32)), (.int (0 : Int32)), (.int (0 : Int32)), (.int (0 : Int32)), (.int (0 : Int32))] := (AL.ext E105 P103_1)
        have c110 : Fld Z h105 b102 "com/example/opacheck/opacheck/PrecedenceTraversal$Neighbours" "size" "I" (.int (0 : Int32)) := (Fld.ext E105 P103_3)
        have c111 : Fld Z h105 b102 "com/example/opacheck/opacheck/PrecedenceTraversal$Neighbours" "rangesSize" "I" (.int (0 : Int32)) := (Fld.ext E105 P103_4)
        have c112 : Fld Z h105 b102 "com/example/opacheck/opacheck/PrecedenceTraversal$Neighbours" "count" "I" (.int cnt) := (Fld.ext E105 P103_2)
        have ne113 : b105 ≠ b102 := (Nat.ne_of_gt (Nat.lt_of_lt_of_le A102.lt (Nat.le_trans (Nat.le_trans (Nat.le_refl _) K103.1) (Nat.le_of_eq g105.symm))))
        have ne114 : b105 ≠ v_103 := (Nat.ne_of_gt (Nat.lt_of_lt_of_le P103_1.lt (Nat.le_trans (Nat.le_refl _) (Nat.le_of_eq g105.symm))))
        have O115 : Ext Z.heap h105 := (Ext.trans O106 E105)
        refine Go.callI (y := (⟨"com/example/opacheck/opacheck/PrecedenceTraversal", "<init>", "(Lcom/example/opacheck/opacheck/PrecedenceTraversal$Neighbours;)V"⟩ : MethodName)) (a := b105) (pc' := 69) C X105 rfl (hw _ (List.mem_of_getElem? (i := 20) rfl)) (hw _ (List.mem_of_getElem? (i := 21) rfl)) (by decide) (rm_ctg l Z a0 hw b105 b102 v_103 k_103 cnt h105 O115 A105 F105_members F105_ranges F105_visitedIn F105_positions F105_links F105_linkedIn F105_path F105_number F105_scope c108 c109 c110 c111 c112 n_b105 ne113 ne114 hcnt) (hw _ (List.mem_of_getElem? (i := 22) rfl)) (hw _ (List.mem_of_getElem? (i := 19) rfl)) e105 (argsL := [(.ref b102)]) (rest := [(.ref b105)]) (W := 1) rfl rfl pd_3 rfl (Nat.le_of_eq rfl) rfl (by decide) (by decide) (by decide) (by decide) rfl at_66 rfl ?_
        intro T107 v107 L107 X107 q107
        obtain ⟨vi_107, ki_107, vp_107, kp_107, rfl, N107q, K107, B107_0, B107_1, P107_0, P107_1, P107_2, P107_3, P107_4, P107_5, p107_0⟩ := q107
        have N107 := Fr.app N103 N107q
        have n_vi_107 : Z.heap.size ≤ vi_107 := Nat.le_trans O115.1 B107_0
        have z_vi_107 : h0.size ≤ vi_107 := Nat.le_trans (Nat.le_trans (Nat.le_trans (Nat.le_trans (Nat.le_refl _) E102.1) K103.1) E105.1) B107_0
        have n_vp_107 : Z.heap.size ≤ vp_107 := Nat.le_trans O115.1 B107_1
        have z_vp_107 : h0.size ≤ vp_107 := Nat.le_trans (Nat.le_trans (Nat.le_trans (Nat.le_trans (Nat.le_refl _) E102.1) K103.1) E105.1) B107_1
        refine Go.astore (Ls' := #[.val (.int p1), .val (.int p2), .val (.int p3), .val (.int p4), .val (.int p5), .val (.int cnt), .val (.int t), .val (.int u), .val (.int w), .val (.int (0 : Int32)), .val (.ref b102), .val (.ref b105), .unset, .unset, .unset, .unset]) (pc' := 71) C X107 at_69 rfl rfl rfl ?_
        refine Go.aload (pc' := 73) C X107 at_71 rfl rfl rfl ?_
        refine Go.aconstNull (pc' := 74) C X107 at_73 rfl ?_
        have c117 : Exa Z T107.heap b105 "com/example/opacheck/opacheck/PrecedenceTraversal" := (Exa.keep A105 K107)
        have O118 : Ext Z.heap T107.heap := (Ext.keep O115 K107 (allS n_b105 all0))
        refine Go.callV (y := (⟨"com/example/opacheck/opacheck/PrecedenceTraversal", "restart", "(Ljava/util/function/IntPredicate;)V"⟩ : MethodName)) (z := (⟨"com/example/opacheck/opacheck/PrecedenceTraversal", "restart", "(Ljava/util/function/IntPredicate;)V"⟩ : MethodName)) (a := b105) (pc' := 77) C X107 (hw _ (List.mem_of_getElem? (i := 59) rfl)) (hw _ (List.mem_of_getElem? (i := 60) rfl)) (notFace_at C.2.1 (hw _ (List.mem_of_getElem? (i := 62) rfl))) (hw _ (List.mem_of_getElem? (i := 62) rfl)) (hw _ (List.mem_of_getElem? (i := 61) rfl)) c117 (by decide) (rm_rst l Z a0 hw b105 ((0 : Int32)) vi_107 vp_107 T107.heap O118 c117 P107_4 P107_5 P107_0 P107_2 n_b105) (hw _ (List.mem_of_getElem? (i := 63) rfl)) (hw _ (List.mem_of_getElem? (i := 19) rfl)) rfl (argsL := [.null]) (rest := []) (W := 0) rfl rfl pd_4 rfl (Nat.le_of_eq rfl) rfl (by decide) (by decide) (by decide) (by decide) at_74 rfl ?_
        intro T116 v116 L116 X116 q116
        obtain ⟨rfl, N116q, K116, P116_0, P116_1, P116_2, P116_3⟩ := q116
        have N116 := Fr.app N107 N116q
        refine Go.aload (pc' := 79) C X116 at_77 rfl rfl rfl ?_
        refine Go.iload (pc' := 81) C X116 at_79 rfl rfl ?_
        have ne120 : vi_107 ≠ b105 := (Nat.ne_of_gt (Nat.lt_of_lt_of_le A105.lt (Nat.le_trans (Nat.le_refl _) B107_0)))
        have c121 : AL Z T116.heap vi_107 ki_107 .int (List.replicate cnt.toNatClampNeg (.int 0)) := (AL.keep P107_1 K116 (ninS ne120 nin0))
        have O122 : Ext Z.heap T116.heap := (Ext.keep O118 K116 (allS n_b105 all0))
        have c123 : Exa Z T116.heap b105 "com/example/opacheck/opacheck/PrecedenceTraversal" := (Exa.keep c117 K116)
        refine Go.callV (y := (⟨"com/example/opacheck/opacheck/PrecedenceTraversal", "visited", "(I)Z"⟩ : MethodName)) (z := (⟨"com/example/opacheck/opacheck/PrecedenceTraversal", "visited", "(I)Z"⟩ : MethodName)) (a := b105) (pc' := 84) C X116 (hw _ (List.mem_of_getElem? (i := 68) rfl)) (hw _ (List.mem_of_getElem? (i := 69) rfl)) (notFace_at C.2.1 (hw _ (List.mem_of_getElem? (i := 71) rfl))) (hw _ (List.mem_of_getElem? (i := 71) rfl)) (hw _ (List.mem_of_getElem? (i := 70) rfl)) c123 (by decide) (rm_vdF l Z a0 hw b105 t (((0 : Int32) + (1 : Int32))) vi_107 ki_107 ((List.replicate cnt.toNatClampNeg (.int 0))) ((0 : Int32)) T116.heap O122 P116_0 P116_2 c121 get (own_at _ _ ltt) (by decide)) (hw _ (List.mem_of_getElem? (i := 72) rfl)) (hw _ (List.mem_of_getElem? (i := 19) rfl)) rfl (argsL := [(.int t)]) (rest := []) (W := 0) rfl rfl pd_5 rfl (Nat.le_of_eq rfl) rfl (by decide) (by decide) (by decide) (by decide) at_81 rfl ?_
        intro T119 v119 L119 X119 q119
        obtain ⟨rfl, rfl, e119⟩ := q119
        have N119 := Fr.app N116 (Fr.nil _)
        refine Go.ifNo (pc' := 87) C X119 at_84 ((if0 _ _).trans (teq (x := (0 : Int32)) (y := (0 : Int32)) (by decide)).2) rfl ?_
        refine Go.iconst (z := (1 : Int32)) (pc' := 88) C X119 at_87 rfl rfl ?_
        refine Go.goto (pc' := 92) C X119 at_88 (by decide) (by decide) ?_
        refine Go.istore (Ls' := #[.val (.int p1), .val (.int p2), .val (.int p3), .val (.int p4), .val (.int p5), .val (.int cnt), .val (.int t), .val (.int u), .val (.int w), .val (.int (0 : Int32)), .val (.ref b102), .val (.ref b105), .val (.int (1 : Int32)), .unset, .unset, .unset]) (pc' := 94) C X119 at_92 rfl rfl ?_
        refine Go.aload (pc' := 96) C X119 at_94 rfl rfl rfl ?_
        refine Go.iload (pc' := 98) C X119 at_96 rfl rfl ?_
        have ne126 : vp_107 ≠ b105 := (Nat.ne_of_gt (Nat.lt_of_lt_of_le A105.lt (Nat.le_trans (Nat.le_refl _) B107_1)))
        have c127 : AL Z T116.heap vp_107 kp_107 .int (List.replicate cnt.toNatClampNeg (.int 0)) := (AL.keep P107_3 K116 (ninS ne126 nin0))
        refine Go.callV (y := (⟨"com/example/opacheck/opacheck/PrecedenceTraversal", "visit", "(I)V"⟩ : MethodName)) (z := (⟨"com/example/opacheck/opacheck/PrecedenceTraversal", "visit", "(I)V"⟩ : MethodName)) (a := b105) (pc' := 101) C X119 (hw _ (List.mem_of_getElem? (i := 73) rfl)) (hw _ (List.mem_of_getElem? (i := 74) rfl)) (notFace_at C.2.1 (hw _ (List.mem_of_getElem? (i := 76) rfl))) (hw _ (List.mem_of_getElem? (i := 76) rfl)) (hw _ (List.mem_of_getElem? (i := 75) rfl)) c123 (by decide) (rm_vis l Z a0 hw b105 u (((0 : Int32) + (1 : Int32))) vi_107 ki_107 ((List.replicate cnt.toNatClampNeg (.int 0))) vp_107 kp_107 ((List.replicate cnt.toNatClampNeg (.int 0))) cnt.toNatClampNeg T116.heap O122 P116_0 P116_2 c121 P116_3 c127 geu (by simp) (by simp) ltu n_vi_107 n_vp_107 p107_0 (Ne.symm ne120) (Ne.symm ne126)) (hw _ (List.mem_of_getElem? (i := 77) rfl)) (hw _ (List.mem_of_getElem? (i := 19) rfl)) e119 (argsL := [(.int u)]) (rest := []) (W := 0) rfl rfl pd_2 rfl (Nat.le_of_eq rfl) rfl (by decide) (by decide) (by decide) (by decide) at_98 rfl ?_
        intro T125 v125 L125 X125 q125
        obtain ⟨rfl, N125q, K125, P125_0, P125_1⟩ := q125
        have N125 := Fr.app N119 N125q
        refine Go.iload (pc' := 103) C X125 at_101 rfl rfl ?_
        refine Go.ifYes (pc' := 113) C X125 at_103 ((if0 _ _).trans (teq (x := (0 : Int32)) (y := (0 : Int32)) (by decide)).1) (by decide) (by decide) ?_
        refine Go.aload (pc' := 115) C X125 at_113 rfl rfl rfl ?_
        refine Go.iload (pc' := 117) C X125 at_115 rfl rfl ?_
        have c130 : Fld Z T125.heap b105 "com/example/opacheck/opacheck/PrecedenceTraversal" "number" "I" (.int ((0 : Int32) + (1 : Int32))) := (Fld.keep P116_0 K125 (ninS (Ne.symm ne120) (ninS (Ne.symm ne126) nin0)))
        have c131 : Fld Z T125.heap b105 "com/example/opacheck/opacheck/PrecedenceTraversal" "visitedIn" "[I" (.ref vi_107) := (Fld.keep P116_2 K125 (ninS (Ne.symm ne120) (ninS (Ne.symm ne126) nin0)))
        have O132 : Ext Z.heap T125.heap := (Ext.keep O122 K125 (allS n_vi_107 (allS n_vp_107 all0)))
        have c133 : Exa Z T125.heap b105 "com/example/opacheck/opacheck/PrecedenceTraversal" := (Exa.keep c123 K125)
        refine Go.callV (y := (⟨"com/example/opacheck/opacheck/PrecedenceTraversal", "visited", "(I)Z"⟩ : MethodName)) (z := (⟨"com/example/opacheck/opacheck/PrecedenceTraversal", "visited", "(I)Z"⟩ : MethodName)) (a := b105) (pc' := 120) C X125 (hw _ (List.mem_of_getElem? (i := 68) rfl)) (hw _ (List.mem_of_getElem? (i := 69) rfl)) (notFace_at C.2.1 (hw _ (List.mem_of_getElem? (i := 71) rfl))) (hw _ (List.mem_of_getElem? (i := 71) rfl)) (hw _ (List.mem_of_getElem? (i := 70) rfl)) c133 (by decide) (rm_vdT l Z a0 hw b105 t (((0 : Int32) + (1 : Int32))) vi_107 ki_107 (((List.replicate cnt.toNatClampNeg (.int 0)).set u.toNatClampNeg (.int ((0 : Int32) + (1 : Int32))))) (((0 : Int32) + (1 : Int32))) T125.heap O132 c130 c131 P125_0 get (own_hit htu (by simpa using ltt)) rfl) (hw _ (List.mem_of_getElem? (i := 72) rfl)) (hw _ (List.mem_of_getElem? (i := 19) rfl)) rfl (argsL := [(.int t)]) (rest := []) (W := 0) rfl rfl pd_5 rfl (Nat.le_of_eq rfl) rfl (by decide) (by decide) (by decide) (by decide) at_117 rfl ?_
        intro T129 v129 L129 X129 q129
        obtain ⟨rfl, rfl, e129⟩ := q129
        have N129 := Fr.app N125 (Fr.nil _)
        refine Go.iload (pc' := 122) C X129 at_120 rfl rfl ?_
        refine Go.iload (pc' := 124) C X129 at_122 rfl rfl ?_
        refine Go.icmpYes (pc' := 139) C X129 at_124 (teq (x := t) (y := u) htu).1 (by decide) (by decide) ?_
        refine Go.iconst (z := (1 : Int32)) (pc' := 140) C X129 at_139 rfl rfl ?_
        refine Go.goto (pc' := 144) C X129 at_140 (by decide) (by decide) ?_
        refine Go.icmpNo (pc' := 147) C X129 at_144 (teq (x := (1 : Int32)) (y := (1 : Int32)) (by decide)).2 rfl ?_
        refine Go.iconst (z := (1 : Int32)) (pc' := 148) C X129 at_147 rfl rfl ?_
        refine Go.goto (pc' := 152) C X129 at_148 (by decide) (by decide) ?_
        refine Go.istore (Ls' := #[.val (.int p1), .val (.int p2), .val (.int p3), .val (.int p4), .val (.int p5), .val (.int cnt), .val (.int t), .val (.int u), .val (.int w), .val (.int (0 : Int32)), .val (.ref b102), .val (.ref b105), .val (.int (1 : Int32)), .val (.int (1 : Int32)), .unset, .unset]) (pc' := 154) C X129 at_152 rfl rfl ?_
        refine Go.aload (pc' := 156) C X129 at_154 rfl rfl rfl ?_
        refine Go.aconstNull (pc' := 157) C X129 at_156 rfl ?_
        have c137 : Fld Z T125.heap b105 "com/example/opacheck/opacheck/PrecedenceTraversal" "scope" "Ljava/util/function/IntPredicate;" .null := (Fld.keep P116_1 K125 (ninS (Ne.symm ne120) (ninS (Ne.symm ne126) nin0)))
        have c138 : Fld Z T125.heap b105 "com/example/opacheck/opacheck/PrecedenceTraversal" "positions" "[I" (.ref vp_107) := (Fld.keep P116_3 K125 (ninS (Ne.symm ne120) (ninS (Ne.symm ne126) nin0)))
        refine Go.callV (y := (⟨"com/example/opacheck/opacheck/PrecedenceTraversal", "restart", "(Ljava/util/function/IntPredicate;)V"⟩ : MethodName)) (z := (⟨"com/example/opacheck/opacheck/PrecedenceTraversal", "restart", "(Ljava/util/function/IntPredicate;)V"⟩ : MethodName)) (a := b105) (pc' := 160) C X129 (hw _ (List.mem_of_getElem? (i := 59) rfl)) (hw _ (List.mem_of_getElem? (i := 60) rfl)) (notFace_at C.2.1 (hw _ (List.mem_of_getElem? (i := 62) rfl))) (hw _ (List.mem_of_getElem? (i := 62) rfl)) (hw _ (List.mem_of_getElem? (i := 61) rfl)) c133 (by decide) (rm_rst l Z a0 hw b105 (((0 : Int32) + (1 : Int32))) vi_107 vp_107 T125.heap O132 c133 c130 c137 c131 c138 n_b105) (hw _ (List.mem_of_getElem? (i := 63) rfl)) (hw _ (List.mem_of_getElem? (i := 19) rfl)) e129 (argsL := [.null]) (rest := []) (W := 0) rfl rfl pd_4 rfl (Nat.le_of_eq rfl) rfl (by decide) (by decide) (by decide) (by decide) at_157 rfl ?_
        intro T136 v136 L136 X136 q136
        obtain ⟨rfl, N136q, K136, P136_0, P136_1, P136_2, P136_3⟩ := q136
        have N136 := Fr.app N129 N136q
        refine Go.aload (pc' := 162) C X136 at_160 rfl rfl rfl ?_
        refine Go.iload (pc' := 164) C X136 at_162 rfl rfl ?_
        have c140 : AL Z T136.heap vi_107 ki_107 .int ((List.replicate cnt.toNatClampNeg (.int 0)).set u.toNatClampNeg (.int ((0 : Int32) + (1 : Int32)))) := (AL.keep P125_0 K136 (ninS ne120 nin0))
        have O141 : Ext Z.heap T136.heap := (Ext.keep O132 K136 (allS n_b105 all0))
        have c142 : Exa Z T136.heap b105 "com/example/opacheck/opacheck/PrecedenceTraversal" := (Exa.keep c133 K136)
        refine Go.callV (y := (⟨"com/example/opacheck/opacheck/PrecedenceTraversal", "visited", "(I)Z"⟩ : MethodName)) (z := (⟨"com/example/opacheck/opacheck/PrecedenceTraversal", "visited", "(I)Z"⟩ : MethodName)) (a := b105) (pc' := 167) C X136 (hw _ (List.mem_of_getElem? (i := 68) rfl)) (hw _ (List.mem_of_getElem? (i := 69) rfl)) (notFace_at C.2.1 (hw _ (List.mem_of_getElem? (i := 71) rfl))) (hw _ (List.mem_of_getElem? (i := 71) rfl)) (hw _ (List.mem_of_getElem? (i := 70) rfl)) c142 (by decide) (rm_vdF l Z a0 hw b105 t ((((0 : Int32) + (1 : Int32)) + (1 : Int32))) vi_107 ki_107 (((List.replicate cnt.toNatClampNeg (.int 0)).set u.toNatClampNeg (.int ((0 : Int32) + (1 : Int32))))) (((0 : Int32) + (1 : Int32))) T136.heap O141 P136_0 P136_2 c140 get (own_hit htu (by simpa using ltt)) (by decide)) (hw _ (List.mem_of_getElem? (i := 72) rfl)) (hw _ (List.mem_of_getElem? (i := 19) rfl)) rfl (argsL := [(.int t)]) (rest := []) (W := 0) rfl rfl pd_5 rfl (Nat.le_of_eq rfl) rfl (by decide) (by decide) (by decide) (by decide) at_164 rfl ?_
        intro T139 v139 L139 X139 q139
        obtain ⟨rfl, rfl, e139⟩ := q139
        have N139 := Fr.app N136 (Fr.nil _)
        refine Go.ifNo (pc' := 170) C X139 at_167 ((if0 _ _).trans (teq (x := (0 : Int32)) (y := (0 : Int32)) (by decide)).2) rfl ?_
        refine Go.iconst (z := (1 : Int32)) (pc' := 171) C X139 at_170 rfl rfl ?_
        refine Go.goto (pc' := 175) C X139 at_171 (by decide) (by decide) ?_
        refine Go.istore (Ls' := #[.val (.int p1), .val (.int p2), .val (.int p3), .val (.int p4), .val (.int p5), .val (.int cnt), .val (.int t), .val (.int u), .val (.int w), .val (.int (0 : Int32)), .val (.ref b102), .val (.ref b105), .val (.int (1 : Int32)), .val (.int (1 : Int32)), .val (.int (1 : Int32)), .unset]) (pc' := 177) C X139 at_175 rfl rfl ?_
        refine Go.aload (pc' := 179) C X139 at_177 rfl rfl rfl ?_
        refine Go.iload (pc' := 181) C X139 at_179 rfl rfl ?_
        have c145 : AL Z T136.heap vp_107 kp_107 .int ((List.replicate cnt.toNatClampNeg (.int 0)).set u.toNatClampNeg (.int (0 : Int32))) := (AL.keep P125_1 K136 (ninS ne126 nin0))
        refine Go.callV (y := (⟨"com/example/opacheck/opacheck/PrecedenceTraversal", "visit", "(I)V"⟩ : MethodName)) (z := (⟨"com/example/opacheck/opacheck/PrecedenceTraversal", "visit", "(I)V"⟩ : MethodName)) (a := b105) (pc' := 184) C X139 (hw _ (List.mem_of_getElem? (i := 73) rfl)) (hw _ (List.mem_of_getElem? (i := 74) rfl)) (notFace_at C.2.1 (hw _ (List.mem_of_getElem? (i := 76) rfl))) (hw _ (List.mem_of_getElem? (i := 76) rfl)) (hw _ (List.mem_of_getElem? (i := 75) rfl)) c142 (by decide) (rm_vis l Z a0 hw b105 w ((((0 : Int32) + (1 : Int32)) + (1 : Int32))) vi_107 ki_107 (((List.replicate cnt.toNatClampNeg (.int 0)).set u.toNatClampNeg (.int ((0 : Int32) + (1 : Int32))))) vp_107 kp_107 (((List.replicate cnt.toNatClampNeg (.int 0)).set u.toNatClampNeg (.int (0 : Int32)))) cnt.toNatClampNeg T136.heap O141 P136_0 P136_2 c140 P136_3 c145 gew (by simp) (by simp) ltw n_vi_107 n_vp_107 p107_0 (Ne.symm ne120) (Ne.symm ne126)) (hw _ (List.mem_of_getElem? (i := 77) rfl)) (hw _ (List.mem_of_getElem? (i := 19) rfl)) e139 (argsL := [(.int w)]) (rest := []) (W := 0) rfl rfl pd_2 rfl (Nat.le_of_eq rfl) rfl (by decide) (by decide) (by decide) (by decide) at_181 rfl ?_
        intro T144 v144 L144 X144 q144
        obtain ⟨rfl, N144q, K144, P144_0, P144_1⟩ := q144
        have N144 := Fr.app N139 N144q
        refine Go.aload (pc' := 186) C X144 at_184 rfl rfl rfl ?_
        refine Go.iload (pc' := 188) C X144 at_186 rfl rfl ?_
        have c147 : Fld Z T144.heap b105 "com/example/opacheck/opacheck/PrecedenceTraversal" "number" "I" (.int (((0 : Int32) + (1 : Int32)) + (1 : Int32))) := (Fld.keep P136_0 K144 (ninS (Ne.symm ne120) (ninS (Ne.symm ne126) nin0)))
        have c148 : Fld Z T144.heap b105 "com/example/opacheck/opacheck/PrecedenceTraversal" "visitedIn" "[I" (.ref vi_107) := (Fld.keep P136_2 K144 (ninS (Ne.symm ne120) (ninS (Ne.symm ne126) nin0)))
        have O149 : Ext Z.heap T144.heap := (Ext.keep O141 K144 (allS n_vi_107 (allS n_vp_107 all0)))
        have c150 : Exa Z T144.heap b105 "com/example/opacheck/opacheck/PrecedenceTraversal" := (Exa.keep c142 K144)
        refine Go.callV (y := (⟨"com/example/opacheck/opacheck/PrecedenceTraversal", "visited", "(I)Z"⟩ : MethodName)) (z := (⟨"com/example/opacheck/opacheck/PrecedenceTraversal", "visited", "(I)Z"⟩ : MethodName)) (a := b105) (pc' := 191) C X144 (hw _ (List.mem_of_getElem? (i := 68) rfl)) (hw _ (List.mem_of_getElem? (i := 69) rfl)) (notFace_at C.2.1 (hw _ (List.mem_of_getElem? (i := 71) rfl))) (hw _ (List.mem_of_getElem? (i := 71) rfl)) (hw _ (List.mem_of_getElem? (i := 70) rfl)) c150 (by decide) (rm_vdT l Z a0 hw b105 t ((((0 : Int32) + (1 : Int32)) + (1 : Int32))) vi_107 ki_107 ((((List.replicate cnt.toNatClampNeg (.int 0)).set u.toNatClampNeg (.int ((0 : Int32) + (1 : Int32)))).set w.toNatClampNeg (.int (((0 : Int32) + (1 : Int32)) + (1 : Int32))))) ((((0 : Int32) + (1 : Int32)) + (1 : Int32))) T144.heap O149 c147 c148 P144_0 get (own_hit htw (by simpa using ltt)) rfl) (hw _ (List.mem_of_getElem? (i := 72) rfl)) (hw _ (List.mem_of_getElem? (i := 19) rfl)) rfl (argsL := [(.int t)]) (rest := []) (W := 0) rfl rfl pd_5 rfl (Nat.le_of_eq rfl) rfl (by decide) (by decide) (by decide) (by decide) at_188 rfl ?_
        intro T146 v146 L146 X146 q146
        obtain ⟨rfl, rfl, e146⟩ := q146
        have N146 := Fr.app N144 (Fr.nil _)
        refine Go.iload (pc' := 193) C X146 at_191 rfl rfl ?_
        refine Go.iload (pc' := 195) C X146 at_193 rfl rfl ?_
        refine Go.icmpNo (pc' := 198) C X146 at_195 (teq (x := t) (y := w) htw).2 rfl ?_
        refine Go.iconst (z := (1 : Int32)) (pc' := 199) C X146 at_198 rfl rfl ?_
        refine Go.goto (pc' := 203) C X146 at_199 (by decide) (by decide) ?_
        refine Go.icmpNo (pc' := 206) C X146 at_203 (teq (x := (1 : Int32)) (y := (1 : Int32)) (by decide)).2 rfl ?_
        refine Go.iconst (z := (1 : Int32)) (pc' := 207) C X146 at_206 rfl rfl ?_
        refine Go.goto (pc' := 211) C X146 at_207 (by decide) (by decide) ?_
        refine Go.istore (Ls' := #[.val (.int p1), .val (.int p2), .val (.int p3), .val (.int p4), .val (.int p5), .val (.int cnt), .val (.int t), .val (.int u), .val (.int w), .val (.int (0 : Int32)), .val (.ref b102), .val (.ref b105), .val (.int (1 : Int32)), .val (.int (1 : Int32)), .val (.int (1 : Int32)), .val (.int (1 : Int32))]) (pc' := 213) C X146 at_211 rfl rfl ?_
        refine Go.iload (pc' := 215) C X146 at_213 rfl rfl ?_
        refine Go.ifNo (pc' := 218) C X146 at_215 ((if0 _ _).trans (feq (x := (1 : Int32)) (y := (0 : Int32)) (by decide)).1) rfl ?_
        refine Go.iload (pc' := 220) C X146 at_218 rfl rfl ?_
        refine Go.ifNo (pc' := 223) C X146 at_220 ((if0 _ _).trans (feq (x := (1 : Int32)) (y := (0 : Int32)) (by decide)).1) rfl ?_
        refine Go.iload (pc' := 225) C X146 at_223 rfl rfl ?_
        refine Go.ifNo (pc' := 228) C X146 at_225 ((if0 _ _).trans (feq (x := (1 : Int32)) (y := (0 : Int32)) (by decide)).1) rfl ?_
        refine Go.iload (pc' := 230) C X146 at_228 rfl rfl ?_
        refine Go.ifNo (pc' := 233) C X146 at_230 ((if0 _ _).trans (feq (x := (1 : Int32)) (y := (0 : Int32)) (by decide)).1) rfl ?_
        refine Go.iconst (z := (1 : Int32)) (pc' := 234) C X146 at_233 rfl rfl ?_
        refine Go.goto (pc' := 238) C X146 at_234 (by decide) (by decide) ?_
        have K157 : Keep h0 T144.heap [] := (((((((((Keep.refl h0 []).ext E102).trans K103 (allS (Or.inr z_b102) all0)).ext E105).trans K107 (allS (Or.inr z_b105) all0)).trans K116 (allS (Or.inr z_b105) all0)).trans K125 (allS (Or.inr z_vi_107) (allS (Or.inr z_vp_107) all0))).trans K136 (allS (Or.inr z_b105) all0)).trans K144 (allS (Or.inr z_vi_107) (allS (Or.inr z_vp_107) all0)))
        exact Go.retN C X146 rfl at_238 (by simp) (by rw [e146]; exact ⟨rfl, N146, K157⟩) (by decide) (by decide)
      · refine Go.ifNo (pc' := 42) C X0 at_39 ((if0 _ _).trans (feq (x := (p5 &&& (1 : Int32))) (y := (0 : Int32)) hc39_101).1) rfl ?_
        refine Go.iconst (z := (1 : Int32)) (pc' := 43) C X0 at_42 rfl rfl ?_
        refine Go.goto (pc' := 47) C X0 at_43 (by decide) (by decide) ?_
        refine Go.istore (Ls' := #[.val (.int p1), .val (.int p2), .val (.int p3), .val (.int p4), .val (.int p5), .val (.int cnt), .val (.int t), .val (.int u), .val (.int w), .val (.int (1 : Int32)), .unset, .unset, .unset, .unset, .unset, .unset]) (pc' := 49) C X0 at_47 rfl rfl ?_
        refine Go.newO (pc' := 52) C X0 (hw _ (List.mem_of_getElem? (i := 1) rfl)) (hw _ (List.mem_of_getElem? (i := 2) rfl)) (hw _ (List.mem_of_getElem? (i := 3) rfl)) e0 (by decide) (by decide) at_49 rfl ?_
        intro T158 h158 b158 X158 e158 g158 E158 A158 D158
        have n_b158 : Z.heap.size ≤ b158 := Nat.le_trans O0.1 (Nat.le_of_eq g158.symm)
        have z_b158 : h0.size ≤ b158 := Nat.le_trans (Nat.le_refl _) (Nat.le_of_eq g158.symm)
        have F158_members : Fld Z h158 b158 "com/example/opacheck/opacheck/PrecedenceTraversal$Neighbours" "members" "[I" .null := D158 (Or.inl (hw _ (List.mem_of_getElem? (i := 12) rfl))) (ty := (.array .int)) (by decide)
        have F158_ranges : Fld Z h158 b158 "com/example/opacheck/opacheck/PrecedenceTraversal$Neighbours" "ranges" "[I" .null := D158 (Or.inl (hw _ (List.mem_of_getElem? (i := 14) rfl))) (ty := (.array .int)) (by decide)
        have F158_count : Fld Z h158 b158 "com/example/opacheck/opacheck/PrecedenceTraversal$Neighbours" "count" "I" (.int (0 : Int32)) := D158 (Or.inr (hw _ (List.mem_of_getElem? (i := 16) rfl))) (ty := .int) (by decide)
        have F158_size : Fld Z h158 b158 "com/example/opacheck/opacheck/PrecedenceTraversal$Neighbours" "size" "I" (.int (0 : Int32)) := D158 (Or.inl (hw _ (List.mem_of_getElem? (i := 27) rfl))) (ty := .int) (by decide)
        have F158_rangesSize : Fld Z h158 b158 "com/example/opacheck/opacheck/PrecedenceTraversal$Neighbours" "rangesSize" "I" (.int (0 : Int32)) := D158 (Or.inl (hw _ (List.mem_of_getElem? (i := 43) rfl))) (ty := .int) (by decide)
        refine Go.dup (pc' := 53) C X158 at_52 rfl rfl ?_
        refine Go.iload (pc' := 55) C X158 at_53 rfl rfl ?_
        have O160 : Ext Z.heap h158 := (Ext.trans O0 E158)
        refine Go.callI (y := (⟨"com/example/opacheck/opacheck/PrecedenceTraversal$Neighbours", "<init>", "(I)V"⟩ : MethodName)) (a := b158) (pc' := 58) C X158 rfl (hw _ (List.mem_of_getElem? (i := 4) rfl)) (hw _ (List.mem_of_getElem? (i := 5) rfl)) (by decide) (rm_nb l Z a0 hw b158 cnt h158 O160 A158 F158_members F158_ranges F158_count F158_size F158_rangesSize n_b158) (hw _ (List.mem_of_getElem? (i := 6) rfl)) (hw _ (List.mem_of_getElem? (i := 3) rfl)) e158 (argsL := [(.int cnt)]) (rest := [(.ref b158)]) (W := 1) rfl rfl pd_2 rfl (Nat.le_of_eq rfl) rfl (by decide) (by decide) (by decide) (by decide) rfl at_55 rfl ?_
        intro T159 v159 L159 X159 q159
        obtain ⟨v_159, k_159, rfl, N159q, K159, B159_0, P159_0, P159_1, P159_2, P159_3, P159_4⟩ := q159
        have N159 := Fr.app N0 N159q
        have n_v_159 : Z.heap.size ≤ v_159 := Nat.le_trans O160.1 B159_0
        have z_v_159 : h0.size ≤ v_159 := Nat.le_trans (Nat.le_trans (Nat.le_refl _) E158.1) B159_0
        refine Go.astore (Ls' := #[.val (.int p1), .val (.int p2), .val (.int p3), .val (.int p4), .val (.int p5), .val (.int cnt), .val (.int t), .val (.int u), .val (.int w), .val (.int (1 : Int32)), .val (.ref b158), .unset, .unset, .unset, .unset, .unset]) (pc' := 60) C X159 at_58 rfl rfl rfl ?_
        have O162 : Ext Z.heap T159.heap := (Ext.keep O160 K159 (allS n_b158 all0))
        refine Go.newO (pc' := 63) C X159 (hw _ (List.mem_of_getElem? (i := 17) rfl)) (hw _ (List.mem_of_getElem? (i := 18) rfl)) (hw _ (List.mem_of_getElem? (i := 19) rfl)) rfl (by decide) (by decide) at_60 rfl ?_
        intro T161 h161 b161 X161 e161 g161 E161 A161 D161
        have n_b161 : Z.heap.size ≤ b161 := Nat.le_trans O162.1 (Nat.le_of_eq g161.symm)
        have z_b161 : h0.size ≤ b161 := Nat.le_trans (Nat.le_trans (Nat.le_trans (Nat.le_refl _) E158.1) K159.1) (Nat.le_of_eq g161.symm)
        have F161_members : Fld Z h161 b161 "com/example/opacheck/opacheck/PrecedenceTraversal" "members" "[I" .null := D161 (Or.inr (hw _ (List.mem_of_getElem? (i := 41) rfl))) (ty := (.array .int)) (by decide)
        have F161_ranges : Fld Z h161 b161 "com/example/opacheck/opacheck/PrecedenceTraversal" "ranges" "[[I" .null := D161 (Or.inr (hw _ (List.mem_of_getElem? (i := 47) rfl))) (ty := (.array (.array .int))) (by decide)
        have F161_visitedIn : Fld Z h161 b161 "com/example/opacheck/opacheck/PrecedenceTraversal" "visitedIn" "[I" .null := D161 (Or.inr (hw _ (List.mem_of_getElem? (i := 50) rfl))) (ty := (.array .int)) (by decide)
        have F161_positions : Fld Z h161 b161 "com/example/opacheck/opacheck/PrecedenceTraversal" "positions" "[I" .null := D161 (Or.inr (hw _ (List.mem_of_getElem? (i := 52) rfl))) (ty := (.array .int)) (by decide)
        have F161_links : Fld Z h161 b161 "com/example/opacheck/opacheck/PrecedenceTraversal" "links" "[I" .null := D161 (Or.inr (hw _ (List.mem_of_getElem? (i := 54) rfl))) (ty := (.array .int)) (by decide)
        have F161_linkedIn : Fld Z h161 b161 "com/example/opacheck/opacheck/PrecedenceTraversal" "linkedIn" "[I" .null := D161 (Or.inr (hw _ (List.mem_of_getElem? (i := 56) rfl))) (ty := (.array .int)) (by decide)
        have F161_path : Fld Z h161 b161 "com/example/opacheck/opacheck/PrecedenceTraversal" "path" "[I" .null := D161 (Or.inr (hw _ (List.mem_of_getElem? (i := 58) rfl))) (ty := (.array .int)) (by decide)
        have F161_number : Fld Z h161 b161 "com/example/opacheck/opacheck/PrecedenceTraversal" "number" "I" (.int (0 : Int32)) := D161 (Or.inl (hw _ (List.mem_of_getElem? (i := 65) rfl))) (ty := .int) (by decide)
        have F161_scope : Fld Z h161 b161 "com/example/opacheck/opacheck/PrecedenceTraversal" "scope" "Ljava/util/function/IntPredicate;" .null := D161 (Or.inl (hw _ (List.mem_of_getElem? (i := 67) rfl))) (ty := (.object "java/util/function/IntPredicate")) (by decide)
        refine Go.dup (pc' := 64) C X161 at_63 rfl rfl ?_
        refine Go.aload (pc' := 66) C X161 at_64 rfl rfl rfl ?_
        have c164 : Fld Z h161 b158 "com/example/opacheck/opacheck/PrecedenceTraversal$Neighbours" "members" "[I" (.ref v_159) := (Fld.ext E161 P159_0)
        have c165 : AL Z h161 v_159 k_159 .int [(.int (0 : Int32)), (.int (0 : Int32)), (.int (0 : Int32)), (.int (0 : Int32)), (.int (0 : Int32)), (.int (0 : Int32)), (.int (0 : Int32)), (.int (0 : Int32)), (.int (0 : Int32)), (.int (0 : Int32)), (.int (0 : Int32)), (.int (0 : Int32)), (.int (0 : Int32)), (.int (0 : Int32)), (.int (0 : Int32)), (.int (0 : Int32))] := (AL.ext E161 P159_1)
        have c166 : Fld Z h161 b158 "com/example/opacheck/opacheck/PrecedenceTraversal$Neighbours" "size" "I" (.int (0 : Int32)) := (Fld.ext E161 P159_3)
        have c167 : Fld Z h161 b158 "com/example/opacheck/opacheck/PrecedenceTraversal$Neighbours" "rangesSize" "I" (.int (0 : Int32)) := (Fld.ext E161 P159_4)
        have c168 : Fld Z h161 b158 "com/example/opacheck/opacheck/PrecedenceTraversal$Neighbours" "count" "I" (.int cnt) := (Fld.ext E161 P159_2)
        have ne169 : b161 ≠ b158 := (Nat.ne_of_gt (Nat.lt_of_lt_of_le A158.lt (Nat.le_trans (Nat.le_trans (Nat.le_refl _) K159.1) (Nat.le_of_eq g161.symm))))
        have ne170 : b161 ≠ v_159 := (Nat.ne_of_gt (Nat.lt_of_lt_of_le P159_1.lt (Nat.le_trans (Nat.le_refl _) (Nat.le_of_eq g161.symm))))
        have O171 : Ext Z.heap h161 := (Ext.trans O162 E161)
        refine Go.callI (y := (⟨"com/example/opacheck/opacheck/PrecedenceTraversal", "<init>", "(Lcom/example/opacheck/opacheck/PrecedenceTraversal$Neighbours;)V"⟩ : MethodName)) (a := b161) (pc' := 69) C X161 rfl (hw _ (List.mem_of_getElem? (i := 20) rfl)) (hw _ (List.mem_of_getElem? (i := 21) rfl)) (by decide) (rm_ctg l Z a0 hw b161 b158 v_159 k_159 cnt h161 O171 A161 F161_members F161_ranges F161_visitedIn F161_positions F161_links F161_linkedIn F161_path F161_number F161_scope c164 c165 c166 c167 c168 n_b161 ne169 ne170 hcnt) (hw _ (List.mem_of_getElem? (i := 22) rfl)) (hw _ (List.mem_of_getElem? (i := 19) rfl)) e161 (argsL := [(.ref b158)]) (rest := [(.ref b161)]) (W := 1) rfl rfl pd_3 rfl (Nat.le_of_eq rfl) rfl (by decide) (by decide) (by decide) (by decide) rfl at_66 rfl ?_
        intro T163 v163 L163 X163 q163
        obtain ⟨vi_163, ki_163, vp_163, kp_163, rfl, N163q, K163, B163_0, B163_1, P163_0, P163_1, P163_2, P163_3, P163_4, P163_5, p163_0⟩ := q163
        have N163 := Fr.app N159 N163q
        have n_vi_163 : Z.heap.size ≤ vi_163 := Nat.le_trans O171.1 B163_0
        have z_vi_163 : h0.size ≤ vi_163 := Nat.le_trans (Nat.le_trans (Nat.le_trans (Nat.le_trans (Nat.le_refl _) E158.1) K159.1) E161.1) B163_0
        have n_vp_163 : Z.heap.size ≤ vp_163 := Nat.le_trans O171.1 B163_1
        have z_vp_163 : h0.size ≤ vp_163 := Nat.le_trans (Nat.le_trans (Nat.le_trans (Nat.le_trans (Nat.le_refl _) E158.1) K159.1) E161.1) B163_1
        refine Go.astore (Ls' := #[.val (.int p1), .val (.int p2), .val (.int p3), .val (.int p4), .val (.int p5), .val (.int cnt), .val (.int t), .val (.int u), .val (.int w), .val (.int (1 : Int32)), .val (.ref b158), .val (.ref b161), .unset, .unset, .unset, .unset]) (pc' := 71) C X163 at_69 rfl rfl rfl ?_
        refine Go.aload (pc' := 73) C X163 at_71 rfl rfl rfl ?_
        refine Go.aconstNull (pc' := 74) C X163 at_73 rfl ?_
        have c173 : Exa Z T163.heap b161 "com/example/opacheck/opacheck/PrecedenceTraversal" := (Exa.keep A161 K163)
        have O174 : Ext Z.heap T163.heap := (Ext.keep O171 K163 (allS n_b161 all0))
        refine Go.callV (y := (⟨"com/example/opacheck/opacheck/PrecedenceTraversal", "restart", "(Ljava/util/function/IntPredicate;)V"⟩ : MethodName)) (z := (⟨"com/example/opacheck/opacheck/PrecedenceTraversal", "restart", "(Ljava/util/function/IntPredicate;)V"⟩ : MethodName)) (a := b161) (pc' := 77) C X163 (hw _ (List.mem_of_getElem? (i := 59) rfl)) (hw _ (List.mem_of_getElem? (i := 60) rfl)) (notFace_at C.2.1 (hw _ (List.mem_of_getElem? (i := 62) rfl))) (hw _ (List.mem_of_getElem? (i := 62) rfl)) (hw _ (List.mem_of_getElem? (i := 61) rfl)) c173 (by decide) (rm_rst l Z a0 hw b161 ((0 : Int32)) vi_163 vp_163 T163.heap O174 c173 P163_4 P163_5 P163_0 P163_2 n_b161) (hw _ (List.mem_of_getElem? (i := 63) rfl)) (hw _ (List.mem_of_getElem? (i := 19) rfl)) rfl (argsL := [.null]) (rest := []) (W := 0) rfl rfl pd_4 rfl (Nat.le_of_eq rfl) rfl (by decide) (by decide) (by decide) (by decide) at_74 rfl ?_
        intro T172 v172 L172 X172 q172
        obtain ⟨rfl, N172q, K172, P172_0, P172_1, P172_2, P172_3⟩ := q172
        have N172 := Fr.app N163 N172q
        refine Go.aload (pc' := 79) C X172 at_77 rfl rfl rfl ?_
        refine Go.iload (pc' := 81) C X172 at_79 rfl rfl ?_
        have ne176 : vi_163 ≠ b161 := (Nat.ne_of_gt (Nat.lt_of_lt_of_le A161.lt (Nat.le_trans (Nat.le_refl _) B163_0)))
        have c177 : AL Z T172.heap vi_163 ki_163 .int (List.replicate cnt.toNatClampNeg (.int 0)) := (AL.keep P163_1 K172 (ninS ne176 nin0))
        have O178 : Ext Z.heap T172.heap := (Ext.keep O174 K172 (allS n_b161 all0))
        have c179 : Exa Z T172.heap b161 "com/example/opacheck/opacheck/PrecedenceTraversal" := (Exa.keep c173 K172)
        refine Go.callV (y := (⟨"com/example/opacheck/opacheck/PrecedenceTraversal", "visited", "(I)Z"⟩ : MethodName)) (z := (⟨"com/example/opacheck/opacheck/PrecedenceTraversal", "visited", "(I)Z"⟩ : MethodName)) (a := b161) (pc' := 84) C X172 (hw _ (List.mem_of_getElem? (i := 68) rfl)) (hw _ (List.mem_of_getElem? (i := 69) rfl)) (notFace_at C.2.1 (hw _ (List.mem_of_getElem? (i := 71) rfl))) (hw _ (List.mem_of_getElem? (i := 71) rfl)) (hw _ (List.mem_of_getElem? (i := 70) rfl)) c179 (by decide) (rm_vdF l Z a0 hw b161 t (((0 : Int32) + (1 : Int32))) vi_163 ki_163 ((List.replicate cnt.toNatClampNeg (.int 0))) ((0 : Int32)) T172.heap O178 P172_0 P172_2 c177 get (own_at _ _ ltt) (by decide)) (hw _ (List.mem_of_getElem? (i := 72) rfl)) (hw _ (List.mem_of_getElem? (i := 19) rfl)) rfl (argsL := [(.int t)]) (rest := []) (W := 0) rfl rfl pd_5 rfl (Nat.le_of_eq rfl) rfl (by decide) (by decide) (by decide) (by decide) at_81 rfl ?_
        intro T175 v175 L175 X175 q175
        obtain ⟨rfl, rfl, e175⟩ := q175
        have N175 := Fr.app N172 (Fr.nil _)
        refine Go.ifNo (pc' := 87) C X175 at_84 ((if0 _ _).trans (teq (x := (0 : Int32)) (y := (0 : Int32)) (by decide)).2) rfl ?_
        refine Go.iconst (z := (1 : Int32)) (pc' := 88) C X175 at_87 rfl rfl ?_
        refine Go.goto (pc' := 92) C X175 at_88 (by decide) (by decide) ?_
        refine Go.istore (Ls' := #[.val (.int p1), .val (.int p2), .val (.int p3), .val (.int p4), .val (.int p5), .val (.int cnt), .val (.int t), .val (.int u), .val (.int w), .val (.int (1 : Int32)), .val (.ref b158), .val (.ref b161), .val (.int (1 : Int32)), .unset, .unset, .unset]) (pc' := 94) C X175 at_92 rfl rfl ?_
        refine Go.aload (pc' := 96) C X175 at_94 rfl rfl rfl ?_
        refine Go.iload (pc' := 98) C X175 at_96 rfl rfl ?_
        have ne182 : vp_163 ≠ b161 := (Nat.ne_of_gt (Nat.lt_of_lt_of_le A161.lt (Nat.le_trans (Nat.le_refl _) B163_1)))
        have c183 : AL Z T172.heap vp_163 kp_163 .int (List.replicate cnt.toNatClampNeg (.int 0)) := (AL.keep P163_3 K172 (ninS ne182 nin0))
        refine Go.callV (y := (⟨"com/example/opacheck/opacheck/PrecedenceTraversal", "visit", "(I)V"⟩ : MethodName)) (z := (⟨"com/example/opacheck/opacheck/PrecedenceTraversal", "visit", "(I)V"⟩ : MethodName)) (a := b161) (pc' := 101) C X175 (hw _ (List.mem_of_getElem? (i := 73) rfl)) (hw _ (List.mem_of_getElem? (i := 74) rfl)) (notFace_at C.2.1 (hw _ (List.mem_of_getElem? (i := 76) rfl))) (hw _ (List.mem_of_getElem? (i := 76) rfl)) (hw _ (List.mem_of_getElem? (i := 75) rfl)) c179 (by decide) (rm_vis l Z a0 hw b161 u (((0 : Int32) + (1 : Int32))) vi_163 ki_163 ((List.replicate cnt.toNatClampNeg (.int 0))) vp_163 kp_163 ((List.replicate cnt.toNatClampNeg (.int 0))) cnt.toNatClampNeg T172.heap O178 P172_0 P172_2 c177 P172_3 c183 geu (by simp) (by simp) ltu n_vi_163 n_vp_163 p163_0 (Ne.symm ne176) (Ne.symm ne182)) (hw _ (List.mem_of_getElem? (i := 77) rfl)) (hw _ (List.mem_of_getElem? (i := 19) rfl)) e175 (argsL := [(.int u)]) (rest := []) (W := 0) rfl rfl pd_2 rfl (Nat.le_of_eq rfl) rfl (by decide) (by decide) (by decide) (by decide) at_98 rfl ?_
        intro T181 v181 L181 X181 q181
        obtain ⟨rfl, N181q, K181, P181_0, P181_1⟩ := q181
        have N181 := Fr.app N175 N181q
        refine Go.iload (pc' := 103) C X181 at_101 rfl rfl ?_
        refine Go.ifNo (pc' := 106) C X181 at_103 ((if0 _ _).trans (feq (x := (1 : Int32)) (y := (0 : Int32)) (by decide)).1) rfl ?_
        refine Go.aload (pc' := 108) C X181 at_106 rfl rfl rfl ?_
        refine Go.iload (pc' := 110) C X181 at_108 rfl rfl ?_
        have c186 : Fld Z T181.heap b161 "com/example/opacheck/opacheck/PrecedenceTraversal" "number" "I" (.int ((0 : Int32) + (1 : Int32))) := (Fld.keep P172_0 K181 (ninS (Ne.symm ne176) (ninS (Ne.symm ne182) nin0)))
        have c187 : Fld Z T181.heap b161 "com/example/opacheck/opacheck/PrecedenceTraversal" "visitedIn" "[I" (.ref vi_163) := (Fld.keep P172_2 K181 (ninS (Ne.symm ne176) (ninS (Ne.symm ne182) nin0)))
        have c188 : Fld Z T181.heap b161 "com/example/opacheck/opacheck/PrecedenceTraversal" "positions" "[I" (.ref vp_163) := (Fld.keep P172_3 K181 (ninS (Ne.symm ne176) (ninS (Ne.symm ne182) nin0)))
        have O189 : Ext Z.heap T181.heap := (Ext.keep O178 K181 (allS n_vi_163 (allS n_vp_163 all0)))
        have c190 : Exa Z T181.heap b161 "com/example/opacheck/opacheck/PrecedenceTraversal" := (Exa.keep c179 K181)
        refine Go.callV (y := (⟨"com/example/opacheck/opacheck/PrecedenceTraversal", "visit", "(I)V"⟩ : MethodName)) (z := (⟨"com/example/opacheck/opacheck/PrecedenceTraversal", "visit", "(I)V"⟩ : MethodName)) (a := b161) (pc' := 113) C X181 (hw _ (List.mem_of_getElem? (i := 73) rfl)) (hw _ (List.mem_of_getElem? (i := 74) rfl)) (notFace_at C.2.1 (hw _ (List.mem_of_getElem? (i := 76) rfl))) (hw _ (List.mem_of_getElem? (i := 76) rfl)) (hw _ (List.mem_of_getElem? (i := 75) rfl)) c190 (by decide) (rm_vis l Z a0 hw b161 w (((0 : Int32) + (1 : Int32))) vi_163 ki_163 (((List.replicate cnt.toNatClampNeg (.int 0)).set u.toNatClampNeg (.int ((0 : Int32) + (1 : Int32))))) vp_163 kp_163 (((List.replicate cnt.toNatClampNeg (.int 0)).set u.toNatClampNeg (.int (0 : Int32)))) cnt.toNatClampNeg T181.heap O189 c186 c187 P181_0 c188 P181_1 gew (by simp) (by simp) ltw n_vi_163 n_vp_163 p163_0 (Ne.symm ne176) (Ne.symm ne182)) (hw _ (List.mem_of_getElem? (i := 77) rfl)) (hw _ (List.mem_of_getElem? (i := 19) rfl)) rfl (argsL := [(.int w)]) (rest := []) (W := 0) rfl rfl pd_2 rfl (Nat.le_of_eq rfl) rfl (by decide) (by decide) (by decide) (by decide) at_110 rfl ?_
        intro T185 v185 L185 X185 q185
        obtain ⟨rfl, N185q, K185, P185_0, P185_1⟩ := q185
        have N185 := Fr.app N181 N185q
        refine Go.aload (pc' := 115) C X185 at_113 rfl rfl rfl ?_
        refine Go.iload (pc' := 117) C X185 at_115 rfl rfl ?_
        have c192 : Fld Z T185.heap b161 "com/example/opacheck/opacheck/PrecedenceTraversal" "number" "I" (.int ((0 : Int32) + (1 : Int32))) := (Fld.keep c186 K185 (ninS (Ne.symm ne176) (ninS (Ne.symm ne182) nin0)))
        have c193 : Fld Z T185.heap b161 "com/example/opacheck/opacheck/PrecedenceTraversal" "visitedIn" "[I" (.ref vi_163) := (Fld.keep c187 K185 (ninS (Ne.symm ne176) (ninS (Ne.symm ne182) nin0)))
        have O194 : Ext Z.heap T185.heap := (Ext.keep O189 K185 (allS n_vi_163 (allS n_vp_163 all0)))
        have c195 : Exa Z T185.heap b161 "com/example/opacheck/opacheck/PrecedenceTraversal" := (Exa.keep c190 K185)
        refine Go.callV (y := (⟨"com/example/opacheck/opacheck/PrecedenceTraversal", "visited", "(I)Z"⟩ : MethodName)) (z := (⟨"com/example/opacheck/opacheck/PrecedenceTraversal", "visited", "(I)Z"⟩ : MethodName)) (a := b161) (pc' := 120) C X185 (hw _ (List.mem_of_getElem? (i := 68) rfl)) (hw _ (List.mem_of_getElem? (i := 69) rfl)) (notFace_at C.2.1 (hw _ (List.mem_of_getElem? (i := 71) rfl))) (hw _ (List.mem_of_getElem? (i := 71) rfl)) (hw _ (List.mem_of_getElem? (i := 70) rfl)) c195 (by decide) (rm_vdT l Z a0 hw b161 t (((0 : Int32) + (1 : Int32))) vi_163 ki_163 ((((List.replicate cnt.toNatClampNeg (.int 0)).set u.toNatClampNeg (.int ((0 : Int32) + (1 : Int32)))).set w.toNatClampNeg (.int ((0 : Int32) + (1 : Int32))))) (((0 : Int32) + (1 : Int32))) T185.heap O194 c192 c193 P185_0 get (own_hit htw (by simpa using ltt)) rfl) (hw _ (List.mem_of_getElem? (i := 72) rfl)) (hw _ (List.mem_of_getElem? (i := 19) rfl)) rfl (argsL := [(.int t)]) (rest := []) (W := 0) rfl rfl pd_5 rfl (Nat.le_of_eq rfl) rfl (by decide) (by decide) (by decide) (by decide) at_117 rfl ?_
        intro T191 v191 L191 X191 q191
        obtain ⟨rfl, rfl, e191⟩ := q191
        have N191 := Fr.app N185 (Fr.nil _)
        refine Go.iload (pc' := 122) C X191 at_120 rfl rfl ?_
        refine Go.iload (pc' := 124) C X191 at_122 rfl rfl ?_
        refine Go.icmpYes (pc' := 139) C X191 at_124 (teq (x := t) (y := u) htu).1 (by decide) (by decide) ?_
        refine Go.iconst (z := (1 : Int32)) (pc' := 140) C X191 at_139 rfl rfl ?_
        refine Go.goto (pc' := 144) C X191 at_140 (by decide) (by decide) ?_
        refine Go.icmpNo (pc' := 147) C X191 at_144 (teq (x := (1 : Int32)) (y := (1 : Int32)) (by decide)).2 rfl ?_
        refine Go.iconst (z := (1 : Int32)) (pc' := 148) C X191 at_147 rfl rfl ?_
        refine Go.goto (pc' := 152) C X191 at_148 (by decide) (by decide) ?_
        refine Go.istore (Ls' := #[.val (.int p1), .val (.int p2), .val (.int p3), .val (.int p4), .val (.int p5), .val (.int cnt), .val (.int t), .val (.int u), .val (.int w), .val (.int (1 : Int32)), .val (.ref b158), .val (.ref b161), .val (.int (1 : Int32)), .val (.int (1 : Int32)), .unset, .unset]) (pc' := 154) C X191 at_152 rfl rfl ?_
        refine Go.aload (pc' := 156) C X191 at_154 rfl rfl rfl ?_
        refine Go.aconstNull (pc' := 157) C X191 at_156 rfl ?_
        have c199 : Fld Z T185.heap b161 "com/example/opacheck/opacheck/PrecedenceTraversal" "scope" "Ljava/util/function/IntPredicate;" .null := (Fld.keep (Fld.keep P172_1 K181 (ninS (Ne.symm ne176) (ninS (Ne.symm ne182) nin0))) K185 (ninS (Ne.symm ne176) (ninS (Ne.symm ne182) nin0)))
        have c200 : Fld Z T185.heap b161 "com/example/opacheck/opacheck/PrecedenceTraversal" "positions" "[I" (.ref vp_163) := (Fld.keep c188 K185 (ninS (Ne.symm ne176) (ninS (Ne.symm ne182) nin0)))
        refine Go.callV (y := (⟨"com/example/opacheck/opacheck/PrecedenceTraversal", "restart", "(Ljava/util/function/IntPredicate;)V"⟩ : MethodName)) (z := (⟨"com/example/opacheck/opacheck/PrecedenceTraversal", "restart", "(Ljava/util/function/IntPredicate;)V"⟩ : MethodName)) (a := b161) (pc' := 160) C X191 (hw _ (List.mem_of_getElem? (i := 59) rfl)) (hw _ (List.mem_of_getElem? (i := 60) rfl)) (notFace_at C.2.1 (hw _ (List.mem_of_getElem? (i := 62) rfl))) (hw _ (List.mem_of_getElem? (i := 62) rfl)) (hw _ (List.mem_of_getElem? (i := 61) rfl)) c195 (by decide) (rm_rst l Z a0 hw b161 (((0 : Int32) + (1 : Int32))) vi_163 vp_163 T185.heap O194 c195 c192 c199 c193 c200 n_b161) (hw _ (List.mem_of_getElem? (i := 63) rfl)) (hw _ (List.mem_of_getElem? (i := 19) rfl)) e191 (argsL := [.null]) (rest := []) (W := 0) rfl rfl pd_4 rfl (Nat.le_of_eq rfl) rfl (by decide) (by decide) (by decide) (by decide) at_157 rfl ?_
        intro T198 v198 L198 X198 q198
        obtain ⟨rfl, N198q, K198, P198_0, P198_1, P198_2, P198_3⟩ := q198
        have N198 := Fr.app N191 N198q
        refine Go.aload (pc' := 162) C X198 at_160 rfl rfl rfl ?_
        refine Go.iload (pc' := 164) C X198 at_162 rfl rfl ?_
        have c202 : AL Z T198.heap vi_163 ki_163 .int (((List.replicate cnt.toNatClampNeg (.int 0)).set u.toNatClampNeg (.int ((0 : Int32) + (1 : Int32)))).set w.toNatClampNeg (.int ((0 : Int32) + (1 : Int32)))) := (AL.keep P185_0 K198 (ninS ne176 nin0))
        have O203 : Ext Z.heap T198.heap := (Ext.keep O194 K198 (allS n_b161 all0))
        have c204 : Exa Z T198.heap b161 "com/example/opacheck/opacheck/PrecedenceTraversal" := (Exa.keep c195 K198)
        refine Go.callV (y := (⟨"com/example/opacheck/opacheck/PrecedenceTraversal", "visited", "(I)Z"⟩ : MethodName)) (z := (⟨"com/example/opacheck/opacheck/PrecedenceTraversal", "visited", "(I)Z"⟩ : MethodName)) (a := b161) (pc' := 167) C X198 (hw _ (List.mem_of_getElem? (i := 68) rfl)) (hw _ (List.mem_of_getElem? (i := 69) rfl)) (notFace_at C.2.1 (hw _ (List.mem_of_getElem? (i := 71) rfl))) (hw _ (List.mem_of_getElem? (i := 71) rfl)) (hw _ (List.mem_of_getElem? (i := 70) rfl)) c204 (by decide) (rm_vdF l Z a0 hw b161 t ((((0 : Int32) + (1 : Int32)) + (1 : Int32))) vi_163 ki_163 ((((List.replicate cnt.toNatClampNeg (.int 0)).set u.toNatClampNeg (.int ((0 : Int32) + (1 : Int32)))).set w.toNatClampNeg (.int ((0 : Int32) + (1 : Int32))))) (((0 : Int32) + (1 : Int32))) T198.heap O203 P198_0 P198_2 c202 get (own_hit htw (by simpa using ltt)) (by decide)) (hw _ (List.mem_of_getElem? (i := 72) rfl)) (hw _ (List.mem_of_getElem? (i := 19) rfl)) rfl (argsL := [(.int t)]) (rest := []) (W := 0) rfl rfl pd_5 rfl (Nat.le_of_eq rfl) rfl (by decide) (by decide) (by decide) (by decide) at_164 rfl ?_
        intro T201 v201 L201 X201 q201
        obtain ⟨rfl, rfl, e201⟩ := q201
        have N201 := Fr.app N198 (Fr.nil _)
        refine Go.ifNo (pc' := 170) C X201 at_167 ((if0 _ _).trans (teq (x := (0 : Int32)) (y := (0 : Int32)) (by decide)).2) rfl ?_
        refine Go.iconst (z := (1 : Int32)) (pc' := 171) C X201 at_170 rfl rfl ?_
        refine Go.goto (pc' := 175) C X201 at_171 (by decide) (by decide) ?_
        refine Go.istore (Ls' := #[.val (.int p1), .val (.int p2), .val (.int p3), .val (.int p4), .val (.int p5), .val (.int cnt), .val (.int t), .val (.int u), .val (.int w), .val (.int (1 : Int32)), .val (.ref b158), .val (.ref b161), .val (.int (1 : Int32)), .val (.int (1 : Int32)), .val (.int (1 : Int32)), .unset]) (pc' := 177) C X201 at_175 rfl rfl ?_
        refine Go.aload (pc' := 179) C X201 at_177 rfl rfl rfl ?_
        refine Go.iload (pc' := 181) C X201 at_179 rfl rfl ?_
        have c207 : AL Z T198.heap vp_163 kp_163 .int (((List.replicate cnt.toNatClampNeg (.int 0)).set u.toNatClampNeg (.int (0 : Int32))).set w.toNatClampNeg (.int (0 : Int32))) := (AL.keep P185_1 K198 (ninS ne182 nin0))
        refine Go.callV (y := (⟨"com/example/opacheck/opacheck/PrecedenceTraversal", "visit", "(I)V"⟩ : MethodName)) (z := (⟨"com/example/opacheck/opacheck/PrecedenceTraversal", "visit", "(I)V"⟩ : MethodName)) (a := b161) (pc' := 184) C X201 (hw _ (List.mem_of_getElem? (i := 73) rfl)) (hw _ (List.mem_of_getElem? (i := 74) rfl)) (notFace_at C.2.1 (hw _ (List.mem_of_getElem? (i := 76) rfl))) (hw _ (List.mem_of_getElem? (i := 76) rfl)) (hw _ (List.mem_of_getElem? (i := 75) rfl)) c204 (by decide) (rm_vis l Z a0 hw b161 w ((((0 : Int32) + (1 : Int32)) + (1 : Int32))) vi_163 ki_163 ((((List.replicate cnt.toNatClampNeg (.int 0)).set u.toNatClampNeg (.int ((0 : Int32) + (1 : Int32)))).set w.toNatClampNeg (.int ((0 : Int32) + (1 : Int32))))) vp_163 kp_163 ((((List.replicate cnt.toNatClampNeg (.int 0)).set u.toNatClampNeg (.int (0 : Int32))).set w.toNatClampNeg (.int (0 : Int32)))) cnt.toNatClampNeg T198.heap O203 P198_0 P198_2 c202 P198_3 c207 gew (by simp) (by simp) ltw n_vi_163 n_vp_163 p163_0 (Ne.symm ne176) (Ne.symm ne182)) (hw _ (List.mem_of_getElem? (i := 77) rfl)) (hw _ (List.mem_of_getElem? (i := 19) rfl)) e201 (argsL := [(.int w)]) (rest := []) (W := 0) rfl rfl pd_2 rfl (Nat.le_of_eq rfl) rfl (by decide) (by decide) (by decide) (by decide) at_181 rfl ?_
        intro T206 v206 L206 X206 q206
        obtain ⟨rfl, N206q, K206, P206_0, P206_1⟩ := q206
        have N206 := Fr.app N201 N206q
        refine Go.aload (pc' := 186) C X206 at_184 rfl rfl rfl ?_
        refine Go.iload (pc' := 188) C X206 at_186 rfl rfl ?_
        have c209 : Fld Z T206.heap b161 "com/example/opacheck/opacheck/PrecedenceTraversal" "number" "I" (.int (((0 : Int32) + (1 : Int32)) + (1 : Int32))) := (Fld.keep P198_0 K206 (ninS (Ne.symm ne176) (ninS (Ne.symm ne182) nin0)))
        have c210 : Fld Z T206.heap b161 "com/example/opacheck/opacheck/PrecedenceTraversal" "visitedIn" "[I" (.ref vi_163) := (Fld.keep P198_2 K206 (ninS (Ne.symm ne176) (ninS (Ne.symm ne182) nin0)))
        have O211 : Ext Z.heap T206.heap := (Ext.keep O203 K206 (allS n_vi_163 (allS n_vp_163 all0)))
        have c212 : Exa Z T206.heap b161 "com/example/opacheck/opacheck/PrecedenceTraversal" := (Exa.keep c204 K206)
        refine Go.callV (y := (⟨"com/example/opacheck/opacheck/PrecedenceTraversal", "visited", "(I)Z"⟩ : MethodName)) (z := (⟨"com/example/opacheck/opacheck/PrecedenceTraversal", "visited", "(I)Z"⟩ : MethodName)) (a := b161) (pc' := 191) C X206 (hw _ (List.mem_of_getElem? (i := 68) rfl)) (hw _ (List.mem_of_getElem? (i := 69) rfl)) (notFace_at C.2.1 (hw _ (List.mem_of_getElem? (i := 71) rfl))) (hw _ (List.mem_of_getElem? (i := 71) rfl)) (hw _ (List.mem_of_getElem? (i := 70) rfl)) c212 (by decide) (rm_vdT l Z a0 hw b161 t ((((0 : Int32) + (1 : Int32)) + (1 : Int32))) vi_163 ki_163 (((((List.replicate cnt.toNatClampNeg (.int 0)).set u.toNatClampNeg (.int ((0 : Int32) + (1 : Int32)))).set w.toNatClampNeg (.int ((0 : Int32) + (1 : Int32)))).set w.toNatClampNeg (.int (((0 : Int32) + (1 : Int32)) + (1 : Int32))))) ((((0 : Int32) + (1 : Int32)) + (1 : Int32))) T206.heap O211 c209 c210 P206_0 get (own_hit htw (by simpa using ltt)) rfl) (hw _ (List.mem_of_getElem? (i := 72) rfl)) (hw _ (List.mem_of_getElem? (i := 19) rfl)) rfl (argsL := [(.int t)]) (rest := []) (W := 0) rfl rfl pd_5 rfl (Nat.le_of_eq rfl) rfl (by decide) (by decide) (by decide) (by decide) at_188 rfl ?_
        intro T208 v208 L208 X208 q208
        obtain ⟨rfl, rfl, e208⟩ := q208
        have N208 := Fr.app N206 (Fr.nil _)
        refine Go.iload (pc' := 193) C X208 at_191 rfl rfl ?_
        refine Go.iload (pc' := 195) C X208 at_193 rfl rfl ?_
        refine Go.icmpNo (pc' := 198) C X208 at_195 (teq (x := t) (y := w) htw).2 rfl ?_
        refine Go.iconst (z := (1 : Int32)) (pc' := 199) C X208 at_198 rfl rfl ?_
        refine Go.goto (pc' := 203) C X208 at_199 (by decide) (by decide) ?_
        refine Go.icmpNo (pc' := 206) C X208 at_203 (teq (x := (1 : Int32)) (y := (1 : Int32)) (by decide)).2 rfl ?_
        refine Go.iconst (z := (1 : Int32)) (pc' := 207) C X208 at_206 rfl rfl ?_
        refine Go.goto (pc' := 211) C X208 at_207 (by decide) (by decide) ?_
        refine Go.istore (Ls' := #[.val (.int p1), .val (.int p2), .val (.int p3), .val (.int p4), .val (.int p5), .val (.int cnt), .val (.int t), .val (.int u), .val (.int w), .val (.int (1 : Int32)), .val (.ref b158), .val (.ref b161), .val (.int (1 : Int32)), .val (.int (1 : Int32)), .val (.int (1 : Int32)), .val (.int (1 : Int32))]) (pc' := 213) C X208 at_211 rfl rfl ?_
        refine Go.iload (pc' := 215) C X208 at_213 rfl rfl ?_
        refine Go.ifNo (pc' := 218) C X208 at_215 ((if0 _ _).trans (feq (x := (1 : Int32)) (y := (0 : Int32)) (by decide)).1) rfl ?_
        refine Go.iload (pc' := 220) C X208 at_218 rfl rfl ?_
        refine Go.ifNo (pc' := 223) C X208 at_220 ((if0 _ _).trans (feq (x := (1 : Int32)) (y := (0 : Int32)) (by decide)).1) rfl ?_
        refine Go.iload (pc' := 225) C X208 at_223 rfl rfl ?_
        refine Go.ifNo (pc' := 228) C X208 at_225 ((if0 _ _).trans (feq (x := (1 : Int32)) (y := (0 : Int32)) (by decide)).1) rfl ?_
        refine Go.iload (pc' := 230) C X208 at_228 rfl rfl ?_
        refine Go.ifNo (pc' := 233) C X208 at_230 ((if0 _ _).trans (feq (x := (1 : Int32)) (y := (0 : Int32)) (by decide)).1) rfl ?_
        refine Go.iconst (z := (1 : Int32)) (pc' := 234) C X208 at_233 rfl rfl ?_
        refine Go.goto (pc' := 238) C X208 at_234 (by decide) (by decide) ?_
        have K219 : Keep h0 T206.heap [] := ((((((((((Keep.refl h0 []).ext E158).trans K159 (allS (Or.inr z_b158) all0)).ext E161).trans K163 (allS (Or.inr z_b161) all0)).trans K172 (allS (Or.inr z_b161) all0)).trans K181 (allS (Or.inr z_vi_163) (allS (Or.inr z_vp_163) all0))).trans K185 (allS (Or.inr z_vi_163) (allS (Or.inr z_vp_163) all0))).trans K198 (allS (Or.inr z_b161) all0)).trans K206 (allS (Or.inr z_vi_163) (allS (Or.inr z_vp_163) all0)))
        exact Go.retN C X208 rfl at_238 (by simp) (by rw [e208]; exact ⟨rfl, N208, K219⟩) (by decide) (by decide)
    · refine Go.iload (pc' := 37) C X0 at_35 rfl rfl ?_
      refine Go.iconst (z := (1 : Int32)) (pc' := 38) C X0 at_37 rfl rfl ?_
      refine Go.iand (pc' := 39) C X0 at_38 rfl ?_
      by_cases hc39_220 : (p5 &&& (1 : Int32)) = (0 : Int32)
      · refine Go.ifYes (pc' := 46) C X0 at_39 ((if0 _ _).trans (teq (x := (p5 &&& (1 : Int32))) (y := (0 : Int32)) hc39_220).1) (by decide) (by decide) ?_
        refine Go.iconst (z := (0 : Int32)) (pc' := 47) C X0 at_46 rfl rfl ?_
        refine Go.istore (Ls' := #[.val (.int p1), .val (.int p2), .val (.int p3), .val (.int p4), .val (.int p5), .val (.int cnt), .val (.int t), .val (.int u), .val (.int w), .val (.int (0 : Int32)), .unset, .unset, .unset, .unset, .unset, .unset]) (pc' := 49) C X0 at_47 rfl rfl ?_
        refine Go.newO (pc' := 52) C X0 (hw _ (List.mem_of_getElem? (i := 1) rfl)) (hw _ (List.mem_of_getElem? (i := 2) rfl)) (hw _ (List.mem_of_getElem? (i := 3) rfl)) e0 (by decide) (by decide) at_49 rfl ?_
        intro T221 h221 b221 X221 e221 g221 E221 A221 D221
        have n_b221 : Z.heap.size ≤ b221 := Nat.le_trans O0.1 (Nat.le_of_eq g221.symm)
        have z_b221 : h0.size ≤ b221 := Nat.le_trans (Nat.le_refl _) (Nat.le_of_eq g221.symm)
        have F221_members : Fld Z h221 b221 "com/example/opacheck/opacheck/PrecedenceTraversal$Neighbours" "members" "[I" .null := D221 (Or.inl (hw _ (List.mem_of_getElem? (i := 12) rfl))) (ty := (.array .int)) (by decide)
        have F221_ranges : Fld Z h221 b221 "com/example/opacheck/opacheck/PrecedenceTraversal$Neighbours" "ranges" "[I" .null := D221 (Or.inl (hw _ (List.mem_of_getElem? (i := 14) rfl))) (ty := (.array .int)) (by decide)
        have F221_count : Fld Z h221 b221 "com/example/opacheck/opacheck/PrecedenceTraversal$Neighbours" "count" "I" (.int (0 : Int32)) := D221 (Or.inr (hw _ (List.mem_of_getElem? (i := 16) rfl))) (ty := .int) (by decide)
        have F221_size : Fld Z h221 b221 "com/example/opacheck/opacheck/PrecedenceTraversal$Neighbours" "size" "I" (.int (0 : Int32)) := D221 (Or.inl (hw _ (List.mem_of_getElem? (i := 27) rfl))) (ty := .int) (by decide)
        have F221_rangesSize : Fld Z h221 b221 "com/example/opacheck/opacheck/PrecedenceTraversal$Neighbours" "rangesSize" "I" (.int (0 : Int32)) := D221 (Or.inl (hw _ (List.mem_of_getElem? (i := 43) rfl))) (ty := .int) (by decide)
        refine Go.dup (pc' := 53) C X221 at_52 rfl rfl ?_
        refine Go.iload (pc' := 55) C X221 at_53 rfl rfl ?_
        have O223 : Ext Z.heap h221 := (Ext.trans O0 E221)
        refine Go.callI (y := (⟨"com/example/opacheck/opacheck/PrecedenceTraversal$Neighbours", "<init>", "(I)V"⟩ : MethodName)) (a := b221) (pc' := 58) C X221 rfl (hw _ (List.mem_of_getElem? (i := 4) rfl)) (hw _ (List.mem_of_getElem? (i := 5) rfl)) (by decide) (rm_nb l Z a0 hw b221 cnt h221 O223 A221 F221_members F221_ranges F221_count F221_size F221_rangesSize n_b221) (hw _ (List.mem_of_getElem? (i := 6) rfl)) (hw _ (List.mem_of_getElem? (i := 3) rfl)) e221 (argsL := [(.int cnt)]) (rest := [(.ref b221)]) (W := 1) rfl rfl pd_2 rfl (Nat.le_of_eq rfl) rfl (by decide) (by decide) (by decide) (by decide) rfl at_55 rfl ?_
        intro T222 v222 L222 X222 q222
        obtain ⟨v_222, k_222, rfl, N222q, K222, B222_0, P222_0, P222_1, P222_2, P222_3, P222_4⟩ := q222
        have N222 := Fr.app N0 N222q
        have n_v_222 : Z.heap.size ≤ v_222 := Nat.le_trans O223.1 B222_0
        have z_v_222 : h0.size ≤ v_222 := Nat.le_trans (Nat.le_trans (Nat.le_refl _) E221.1) B222_0
        refine Go.astore (Ls' := #[.val (.int p1), .val (.int p2), .val (.int p3), .val (.int p4), .val (.int p5), .val (.int cnt), .val (.int t), .val (.int u), .val (.int w), .val (.int (0 : Int32)), .val (.ref b221), .unset, .unset, .unset, .unset, .unset]) (pc' := 60) C X222 at_58 rfl rfl rfl ?_
        have O225 : Ext Z.heap T222.heap := (Ext.keep O223 K222 (allS n_b221 all0))
        refine Go.newO (pc' := 63) C X222 (hw _ (List.mem_of_getElem? (i := 17) rfl)) (hw _ (List.mem_of_getElem? (i := 18) rfl)) (hw _ (List.mem_of_getElem? (i := 19) rfl)) rfl (by decide) (by decide) at_60 rfl ?_
        intro T224 h224 b224 X224 e224 g224 E224 A224 D224
        have n_b224 : Z.heap.size ≤ b224 := Nat.le_trans O225.1 (Nat.le_of_eq g224.symm)
        have z_b224 : h0.size ≤ b224 := Nat.le_trans (Nat.le_trans (Nat.le_trans (Nat.le_refl _) E221.1) K222.1) (Nat.le_of_eq g224.symm)
        have F224_members : Fld Z h224 b224 "com/example/opacheck/opacheck/PrecedenceTraversal" "members" "[I" .null := D224 (Or.inr (hw _ (List.mem_of_getElem? (i := 41) rfl))) (ty := (.array .int)) (by decide)
        have F224_ranges : Fld Z h224 b224 "com/example/opacheck/opacheck/PrecedenceTraversal" "ranges" "[[I" .null := D224 (Or.inr (hw _ (List.mem_of_getElem? (i := 47) rfl))) (ty := (.array (.array .int))) (by decide)
        have F224_visitedIn : Fld Z h224 b224 "com/example/opacheck/opacheck/PrecedenceTraversal" "visitedIn" "[I" .null := D224 (Or.inr (hw _ (List.mem_of_getElem? (i := 50) rfl))) (ty := (.array .int)) (by decide)
        have F224_positions : Fld Z h224 b224 "com/example/opacheck/opacheck/PrecedenceTraversal" "positions" "[I" .null := D224 (Or.inr (hw _ (List.mem_of_getElem? (i := 52) rfl))) (ty := (.array .int)) (by decide)
        have F224_links : Fld Z h224 b224 "com/example/opacheck/opacheck/PrecedenceTraversal" "links" "[I" .null := D224 (Or.inr (hw _ (List.mem_of_getElem? (i := 54) rfl))) (ty := (.array .int)) (by decide)
        have F224_linkedIn : Fld Z h224 b224 "com/example/opacheck/opacheck/PrecedenceTraversal" "linkedIn" "[I" .null := D224 (Or.inr (hw _ (List.mem_of_getElem? (i := 56) rfl))) (ty := (.array .int)) (by decide)
        have F224_path : Fld Z h224 b224 "com/example/opacheck/opacheck/PrecedenceTraversal" "path" "[I" .null := D224 (Or.inr (hw _ (List.mem_of_getElem? (i := 58) rfl))) (ty := (.array .int)) (by decide)
        have F224_number : Fld Z h224 b224 "com/example/opacheck/opacheck/PrecedenceTraversal" "number" "I" (.int (0 : Int32)) := D224 (Or.inl (hw _ (List.mem_of_getElem? (i := 65) rfl))) (ty := .int) (by decide)
        have F224_scope : Fld Z h224 b224 "com/example/opacheck/opacheck/PrecedenceTraversal" "scope" "Ljava/util/function/IntPredicate;" .null := D224 (Or.inl (hw _ (List.mem_of_getElem? (i := 67) rfl))) (ty := (.object "java/util/function/IntPredicate")) (by decide)
        refine Go.dup (pc' := 64) C X224 at_63 rfl rfl ?_
        refine Go.aload (pc' := 66) C X224 at_64 rfl rfl rfl ?_
        have c227 : Fld Z h224 b221 "com/example/opacheck/opacheck/PrecedenceTraversal$Neighbours" "members" "[I" (.ref v_222) := (Fld.ext E224 P222_0)
        have c228 : AL Z h224 v_222 k_222 .int [(.int (0 : Int32)), (.int (0 : Int32)), (.int (0 : Int32)), (.int (0 : Int32)), (.int (0 : Int32)), (.int (0 : Int32)), (.int (0 : Int32)), (.int (0 : Int32)), (.int (0 : Int32)), (.int (0 : Int32)), (.int (0 : Int32)), (.int (0 : Int32)), (.int (0 : Int32)), (.int (0 : Int32)), (.int (0 : Int32)), (.int (0 : Int32))] := (AL.ext E224 P222_1)
        have c229 : Fld Z h224 b221 "com/example/opacheck/opacheck/PrecedenceTraversal$Neighbours" "size" "I" (.int (0 : Int32)) := (Fld.ext E224 P222_3)
        have c230 : Fld Z h224 b221 "com/example/opacheck/opacheck/PrecedenceTraversal$Neighbours" "rangesSize" "I" (.int (0 : Int32)) := (Fld.ext E224 P222_4)
        have c231 : Fld Z h224 b221 "com/example/opacheck/opacheck/PrecedenceTraversal$Neighbours" "count" "I" (.int cnt) := (Fld.ext E224 P222_2)
        have ne232 : b224 ≠ b221 := (Nat.ne_of_gt (Nat.lt_of_lt_of_le A221.lt (Nat.le_trans (Nat.le_trans (Nat.le_refl _) K222.1) (Nat.le_of_eq g224.symm))))
        have ne233 : b224 ≠ v_222 := (Nat.ne_of_gt (Nat.lt_of_lt_of_le P222_1.lt (Nat.le_trans (Nat.le_refl _) (Nat.le_of_eq g224.symm))))
        have O234 : Ext Z.heap h224 := (Ext.trans O225 E224)
        refine Go.callI (y := (⟨"com/example/opacheck/opacheck/PrecedenceTraversal", "<init>", "(Lcom/example/opacheck/opacheck/PrecedenceTraversal$Neighbours;)V"⟩ : MethodName)) (a := b224) (pc' := 69) C X224 rfl (hw _ (List.mem_of_getElem? (i := 20) rfl)) (hw _ (List.mem_of_getElem? (i := 21) rfl)) (by decide) (rm_ctg l Z a0 hw b224 b221 v_222 k_222 cnt h224 O234 A224 F224_members F224_ranges F224_visitedIn F224_positions F224_links F224_linkedIn F224_path F224_number F224_scope c227 c228 c229 c230 c231 n_b224 ne232 ne233 hcnt) (hw _ (List.mem_of_getElem? (i := 22) rfl)) (hw _ (List.mem_of_getElem? (i := 19) rfl)) e224 (argsL := [(.ref b221)]) (rest := [(.ref b224)]) (W := 1) rfl rfl pd_3 rfl (Nat.le_of_eq rfl) rfl (by decide) (by decide) (by decide) (by decide) rfl at_66 rfl ?_
        intro T226 v226 L226 X226 q226
        obtain ⟨vi_226, ki_226, vp_226, kp_226, rfl, N226q, K226, B226_0, B226_1, P226_0, P226_1, P226_2, P226_3, P226_4, P226_5, p226_0⟩ := q226
        have N226 := Fr.app N222 N226q
        have n_vi_226 : Z.heap.size ≤ vi_226 := Nat.le_trans O234.1 B226_0
        have z_vi_226 : h0.size ≤ vi_226 := Nat.le_trans (Nat.le_trans (Nat.le_trans (Nat.le_trans (Nat.le_refl _) E221.1) K222.1) E224.1) B226_0
        have n_vp_226 : Z.heap.size ≤ vp_226 := Nat.le_trans O234.1 B226_1
        have z_vp_226 : h0.size ≤ vp_226 := Nat.le_trans (Nat.le_trans (Nat.le_trans (Nat.le_trans (Nat.le_refl _) E221.1) K222.1) E224.1) B226_1
        refine Go.astore (Ls' := #[.val (.int p1), .val (.int p2), .val (.int p3), .val (.int p4), .val (.int p5), .val (.int cnt), .val (.int t), .val (.int u), .val (.int w), .val (.int (0 : Int32)), .val (.ref b221), .val (.ref b224), .unset, .unset, .unset, .unset]) (pc' := 71) C X226 at_69 rfl rfl rfl ?_
        refine Go.aload (pc' := 73) C X226 at_71 rfl rfl rfl ?_
        refine Go.aconstNull (pc' := 74) C X226 at_73 rfl ?_
        have c236 : Exa Z T226.heap b224 "com/example/opacheck/opacheck/PrecedenceTraversal" := (Exa.keep A224 K226)
        have O237 : Ext Z.heap T226.heap := (Ext.keep O234 K226 (allS n_b224 all0))
        refine Go.callV (y := (⟨"com/example/opacheck/opacheck/PrecedenceTraversal", "restart", "(Ljava/util/function/IntPredicate;)V"⟩ : MethodName)) (z := (⟨"com/example/opacheck/opacheck/PrecedenceTraversal", "restart", "(Ljava/util/function/IntPredicate;)V"⟩ : MethodName)) (a := b224) (pc' := 77) C X226 (hw _ (List.mem_of_getElem? (i := 59) rfl)) (hw _ (List.mem_of_getElem? (i := 60) rfl)) (notFace_at C.2.1 (hw _ (List.mem_of_getElem? (i := 62) rfl))) (hw _ (List.mem_of_getElem? (i := 62) rfl)) (hw _ (List.mem_of_getElem? (i := 61) rfl)) c236 (by decide) (rm_rst l Z a0 hw b224 ((0 : Int32)) vi_226 vp_226 T226.heap O237 c236 P226_4 P226_5 P226_0 P226_2 n_b224) (hw _ (List.mem_of_getElem? (i := 63) rfl)) (hw _ (List.mem_of_getElem? (i := 19) rfl)) rfl (argsL := [.null]) (rest := []) (W := 0) rfl rfl pd_4 rfl (Nat.le_of_eq rfl) rfl (by decide) (by decide) (by decide) (by decide) at_74 rfl ?_
        intro T235 v235 L235 X235 q235
        obtain ⟨rfl, N235q, K235, P235_0, P235_1, P235_2, P235_3⟩ := q235
        have N235 := Fr.app N226 N235q
        refine Go.aload (pc' := 79) C X235 at_77 rfl rfl rfl ?_
        refine Go.iload (pc' := 81) C X235 at_79 rfl rfl ?_
        have ne239 : vi_226 ≠ b224 := (Nat.ne_of_gt (Nat.lt_of_lt_of_le A224.lt (Nat.le_trans (Nat.le_refl _) B226_0)))
        have c240 : AL Z T235.heap vi_226 ki_226 .int (List.replicate cnt.toNatClampNeg (.int 0)) := (AL.keep P226_1 K235 (ninS ne239 nin0))
        have O241 : Ext Z.heap T235.heap := (Ext.keep O237 K235 (allS n_b224 all0))
        have c242 : Exa Z T235.heap b224 "com/example/opacheck/opacheck/PrecedenceTraversal" := (Exa.keep c236 K235)
        refine Go.callV (y := (⟨"com/example/opacheck/opacheck/PrecedenceTraversal", "visited", "(I)Z"⟩ : MethodName)) (z := (⟨"com/example/opacheck/opacheck/PrecedenceTraversal", "visited", "(I)Z"⟩ : MethodName)) (a := b224) (pc' := 84) C X235 (hw _ (List.mem_of_getElem? (i := 68) rfl)) (hw _ (List.mem_of_getElem? (i := 69) rfl)) (notFace_at C.2.1 (hw _ (List.mem_of_getElem? (i := 71) rfl))) (hw _ (List.mem_of_getElem? (i := 71) rfl)) (hw _ (List.mem_of_getElem? (i := 70) rfl)) c242 (by decide) (rm_vdF l Z a0 hw b224 t (((0 : Int32) + (1 : Int32))) vi_226 ki_226 ((List.replicate cnt.toNatClampNeg (.int 0))) ((0 : Int32)) T235.heap O241 P235_0 P235_2 c240 get (own_at _ _ ltt) (by decide)) (hw _ (List.mem_of_getElem? (i := 72) rfl)) (hw _ (List.mem_of_getElem? (i := 19) rfl)) rfl (argsL := [(.int t)]) (rest := []) (W := 0) rfl rfl pd_5 rfl (Nat.le_of_eq rfl) rfl (by decide) (by decide) (by decide) (by decide) at_81 rfl ?_
        intro T238 v238 L238 X238 q238
        obtain ⟨rfl, rfl, e238⟩ := q238
        have N238 := Fr.app N235 (Fr.nil _)
        refine Go.ifNo (pc' := 87) C X238 at_84 ((if0 _ _).trans (teq (x := (0 : Int32)) (y := (0 : Int32)) (by decide)).2) rfl ?_
        refine Go.iconst (z := (1 : Int32)) (pc' := 88) C X238 at_87 rfl rfl ?_
        refine Go.goto (pc' := 92) C X238 at_88 (by decide) (by decide) ?_
        refine Go.istore (Ls' := #[.val (.int p1), .val (.int p2), .val (.int p3), .val (.int p4), .val (.int p5), .val (.int cnt), .val (.int t), .val (.int u), .val (.int w), .val (.int (0 : Int32)), .val (.ref b221), .val (.ref b224), .val (.int (1 : Int32)), .unset, .unset, .unset]) (pc' := 94) C X238 at_92 rfl rfl ?_
        refine Go.aload (pc' := 96) C X238 at_94 rfl rfl rfl ?_
        refine Go.iload (pc' := 98) C X238 at_96 rfl rfl ?_
        have ne245 : vp_226 ≠ b224 := (Nat.ne_of_gt (Nat.lt_of_lt_of_le A224.lt (Nat.le_trans (Nat.le_refl _) B226_1)))
        have c246 : AL Z T235.heap vp_226 kp_226 .int (List.replicate cnt.toNatClampNeg (.int 0)) := (AL.keep P226_3 K235 (ninS ne245 nin0))
        refine Go.callV (y := (⟨"com/example/opacheck/opacheck/PrecedenceTraversal", "visit", "(I)V"⟩ : MethodName)) (z := (⟨"com/example/opacheck/opacheck/PrecedenceTraversal", "visit", "(I)V"⟩ : MethodName)) (a := b224) (pc' := 101) C X238 (hw _ (List.mem_of_getElem? (i := 73) rfl)) (hw _ (List.mem_of_getElem? (i := 74) rfl)) (notFace_at C.2.1 (hw _ (List.mem_of_getElem? (i := 76) rfl))) (hw _ (List.mem_of_getElem? (i := 76) rfl)) (hw _ (List.mem_of_getElem? (i := 75) rfl)) c242 (by decide) (rm_vis l Z a0 hw b224 u (((0 : Int32) + (1 : Int32))) vi_226 ki_226 ((List.replicate cnt.toNatClampNeg (.int 0))) vp_226 kp_226 ((List.replicate cnt.toNatClampNeg (.int 0))) cnt.toNatClampNeg T235.heap O241 P235_0 P235_2 c240 P235_3 c246 geu (by simp) (by simp) ltu n_vi_226 n_vp_226 p226_0 (Ne.symm ne239) (Ne.symm ne245)) (hw _ (List.mem_of_getElem? (i := 77) rfl)) (hw _ (List.mem_of_getElem? (i := 19) rfl)) e238 (argsL := [(.int u)]) (rest := []) (W := 0) rfl rfl pd_2 rfl (Nat.le_of_eq rfl) rfl (by decide) (by decide) (by decide) (by decide) at_98 rfl ?_
        intro T244 v244 L244 X244 q244
        obtain ⟨rfl, N244q, K244, P244_0, P244_1⟩ := q244
        have N244 := Fr.app N238 N244q
        refine Go.iload (pc' := 103) C X244 at_101 rfl rfl ?_
        refine Go.ifYes (pc' := 113) C X244 at_103 ((if0 _ _).trans (teq (x := (0 : Int32)) (y := (0 : Int32)) (by decide)).1) (by decide) (by decide) ?_
        refine Go.aload (pc' := 115) C X244 at_113 rfl rfl rfl ?_
        refine Go.iload (pc' := 117) C X244 at_115 rfl rfl ?_
        have c249 : Fld Z T244.heap b224 "com/example/opacheck/opacheck/PrecedenceTraversal" "number" "I" (.int ((0 : Int32) + (1 : Int32))) := (Fld.keep P235_0 K244 (ninS (Ne.symm ne239) (ninS (Ne.symm ne245) nin0)))
        have c250 : Fld Z T244.heap b224 "com/example/opacheck/opacheck/PrecedenceTraversal" "visitedIn" "[I" (.ref vi_226) := (Fld.keep P235_2 K244 (ninS (Ne.symm ne239) (ninS (Ne.symm ne245) nin0)))
        have O251 : Ext Z.heap T244.heap := (Ext.keep O241 K244 (allS n_vi_226 (allS n_vp_226 all0)))
        have c252 : Exa Z T244.heap b224 "com/example/opacheck/opacheck/PrecedenceTraversal" := (Exa.keep c242 K244)
        refine Go.callV (y := (⟨"com/example/opacheck/opacheck/PrecedenceTraversal", "visited", "(I)Z"⟩ : MethodName)) (z := (⟨"com/example/opacheck/opacheck/PrecedenceTraversal", "visited", "(I)Z"⟩ : MethodName)) (a := b224) (pc' := 120) C X244 (hw _ (List.mem_of_getElem? (i := 68) rfl)) (hw _ (List.mem_of_getElem? (i := 69) rfl)) (notFace_at C.2.1 (hw _ (List.mem_of_getElem? (i := 71) rfl))) (hw _ (List.mem_of_getElem? (i := 71) rfl)) (hw _ (List.mem_of_getElem? (i := 70) rfl)) c252 (by decide) (rm_vdT l Z a0 hw b224 t (((0 : Int32) + (1 : Int32))) vi_226 ki_226 (((List.replicate cnt.toNatClampNeg (.int 0)).set u.toNatClampNeg (.int ((0 : Int32) + (1 : Int32))))) (((0 : Int32) + (1 : Int32))) T244.heap O251 c249 c250 P244_0 get (own_hit htu (by simpa using ltt)) rfl) (hw _ (List.mem_of_getElem? (i := 72) rfl)) (hw _ (List.mem_of_getElem? (i := 19) rfl)) rfl (argsL := [(.int t)]) (rest := []) (W := 0) rfl rfl pd_5 rfl (Nat.le_of_eq rfl) rfl (by decide) (by decide) (by decide) (by decide) at_117 rfl ?_
        intro T248 v248 L248 X248 q248
        obtain ⟨rfl, rfl, e248⟩ := q248
        have N248 := Fr.app N244 (Fr.nil _)
        refine Go.iload (pc' := 122) C X248 at_120 rfl rfl ?_
        refine Go.iload (pc' := 124) C X248 at_122 rfl rfl ?_
        refine Go.icmpYes (pc' := 139) C X248 at_124 (teq (x := t) (y := u) htu).1 (by decide) (by decide) ?_
        refine Go.iconst (z := (1 : Int32)) (pc' := 140) C X248 at_139 rfl rfl ?_
        refine Go.goto (pc' := 144) C X248 at_140 (by decide) (by decide) ?_
        refine Go.icmpNo (pc' := 147) C X248 at_144 (teq (x := (1 : Int32)) (y := (1 : Int32)) (by decide)).2 rfl ?_
        refine Go.iconst (z := (1 : Int32)) (pc' := 148) C X248 at_147 rfl rfl ?_
        refine Go.goto (pc' := 152) C X248 at_148 (by decide) (by decide) ?_
        refine Go.istore (Ls' := #[.val (.int p1), .val (.int p2), .val (.int p3), .val (.int p4), .val (.int p5), .val (.int cnt), .val (.int t), .val (.int u), .val (.int w), .val (.int (0 : Int32)), .val (.ref b221), .val (.ref b224), .val (.int (1 : Int32)), .val (.int (1 : Int32)), .unset, .unset]) (pc' := 154) C X248 at_152 rfl rfl ?_
        refine Go.aload (pc' := 156) C X248 at_154 rfl rfl rfl ?_
        refine Go.aconstNull (pc' := 157) C X248 at_156 rfl ?_
        have c256 : Fld Z T244.heap b224 "com/example/opacheck/opacheck/PrecedenceTraversal" "scope" "Ljava/util/function/IntPredicate;" .null := (Fld.keep P235_1 K244 (ninS (Ne.symm ne239) (ninS (Ne.symm ne245) nin0)))
        have c257 : Fld Z T244.heap b224 "com/example/opacheck/opacheck/PrecedenceTraversal" "positions" "[I" (.ref vp_226) := (Fld.keep P235_3 K244 (ninS (Ne.symm ne239) (ninS (Ne.symm ne245) nin0)))
        refine Go.callV (y := (⟨"com/example/opacheck/opacheck/PrecedenceTraversal", "restart", "(Ljava/util/function/IntPredicate;)V"⟩ : MethodName)) (z := (⟨"com/example/opacheck/opacheck/PrecedenceTraversal", "restart", "(Ljava/util/function/IntPredicate;)V"⟩ : MethodName)) (a := b224) (pc' := 160) C X248 (hw _ (List.mem_of_getElem? (i := 59) rfl)) (hw _ (List.mem_of_getElem? (i := 60) rfl)) (notFace_at C.2.1 (hw _ (List.mem_of_getElem? (i := 62) rfl))) (hw _ (List.mem_of_getElem? (i := 62) rfl)) (hw _ (List.mem_of_getElem? (i := 61) rfl)) c252 (by decide) (rm_rst l Z a0 hw b224 (((0 : Int32) + (1 : Int32))) vi_226 vp_226 T244.heap O251 c252 c249 c256 c250 c257 n_b224) (hw _ (List.mem_of_getElem? (i := 63) rfl)) (hw _ (List.mem_of_getElem? (i := 19) rfl)) e248 (argsL := [.null]) (rest := []) (W := 0) rfl rfl pd_4 rfl (Nat.le_of_eq rfl) rfl (by decide) (by decide) (by decide) (by decide) at_157 rfl ?_
        intro T255 v255 L255 X255 q255
        obtain ⟨rfl, N255q, K255, P255_0, P255_1, P255_2, P255_3⟩ := q255
        have N255 := Fr.app N248 N255q
        refine Go.aload (pc' := 162) C X255 at_160 rfl rfl rfl ?_
        refine Go.iload (pc' := 164) C X255 at_162 rfl rfl ?_
        have c259 : AL Z T255.heap vi_226 ki_226 .int ((List.replicate cnt.toNatClampNeg (.int 0)).set u.toNatClampNeg (.int ((0 : Int32) + (1 : Int32)))) := (AL.keep P244_0 K255 (ninS ne239 nin0))
        have O260 : Ext Z.heap T255.heap := (Ext.keep O251 K255 (allS n_b224 all0))
        have c261 : Exa Z T255.heap b224 "com/example/opacheck/opacheck/PrecedenceTraversal" := (Exa.keep c252 K255)
        refine Go.callV (y := (⟨"com/example/opacheck/opacheck/PrecedenceTraversal", "visited", "(I)Z"⟩ : MethodName)) (z := (⟨"com/example/opacheck/opacheck/PrecedenceTraversal", "visited", "(I)Z"⟩ : MethodName)) (a := b224) (pc' := 167) C X255 (hw _ (List.mem_of_getElem? (i := 68) rfl)) (hw _ (List.mem_of_getElem? (i := 69) rfl)) (notFace_at C.2.1 (hw _ (List.mem_of_getElem? (i := 71) rfl))) (hw _ (List.mem_of_getElem? (i := 71) rfl)) (hw _ (List.mem_of_getElem? (i := 70) rfl)) c261 (by decide) (rm_vdF l Z a0 hw b224 t ((((0 : Int32) + (1 : Int32)) + (1 : Int32))) vi_226 ki_226 (((List.replicate cnt.toNatClampNeg (.int 0)).set u.toNatClampNeg (.int ((0 : Int32) + (1 : Int32))))) (((0 : Int32) + (1 : Int32))) T255.heap O260 P255_0 P255_2 c259 get (own_hit htu (by simpa using ltt)) (by decide)) (hw _ (List.mem_of_getElem? (i := 72) rfl)) (hw _ (List.mem_of_getElem? (i := 19) rfl)) rfl (argsL := [(.int t)]) (rest := []) (W := 0) rfl rfl pd_5 rfl (Nat.le_of_eq rfl) rfl (by decide) (by decide) (by decide) (by decide) at_164 rfl ?_
        intro T258 v258 L258 X258 q258
        obtain ⟨rfl, rfl, e258⟩ := q258
        have N258 := Fr.app N255 (Fr.nil _)
        refine Go.ifNo (pc' := 170) C X258 at_167 ((if0 _ _).trans (teq (x := (0 : Int32)) (y := (0 : Int32)) (by decide)).2) rfl ?_
        refine Go.iconst (z := (1 : Int32)) (pc' := 171) C X258 at_170 rfl rfl ?_
        refine Go.goto (pc' := 175) C X258 at_171 (by decide) (by decide) ?_
        refine Go.istore (Ls' := #[.val (.int p1), .val (.int p2), .val (.int p3), .val (.int p4), .val (.int p5), .val (.int cnt), .val (.int t), .val (.int u), .val (.int w), .val (.int (0 : Int32)), .val (.ref b221), .val (.ref b224), .val (.int (1 : Int32)), .val (.int (1 : Int32)), .val (.int (1 : Int32)), .unset]) (pc' := 177) C X258 at_175 rfl rfl ?_
        refine Go.aload (pc' := 179) C X258 at_177 rfl rfl rfl ?_
        refine Go.iload (pc' := 181) C X258 at_179 rfl rfl ?_
        have c264 : AL Z T255.heap vp_226 kp_226 .int ((List.replicate cnt.toNatClampNeg (.int 0)).set u.toNatClampNeg (.int (0 : Int32))) := (AL.keep P244_1 K255 (ninS ne245 nin0))
        refine Go.callV (y := (⟨"com/example/opacheck/opacheck/PrecedenceTraversal", "visit", "(I)V"⟩ : MethodName)) (z := (⟨"com/example/opacheck/opacheck/PrecedenceTraversal", "visit", "(I)V"⟩ : MethodName)) (a := b224) (pc' := 184) C X258 (hw _ (List.mem_of_getElem? (i := 73) rfl)) (hw _ (List.mem_of_getElem? (i := 74) rfl)) (notFace_at C.2.1 (hw _ (List.mem_of_getElem? (i := 76) rfl))) (hw _ (List.mem_of_getElem? (i := 76) rfl)) (hw _ (List.mem_of_getElem? (i := 75) rfl)) c261 (by decide) (rm_vis l Z a0 hw b224 w ((((0 : Int32) + (1 : Int32)) + (1 : Int32))) vi_226 ki_226 (((List.replicate cnt.toNatClampNeg (.int 0)).set u.toNatClampNeg (.int ((0 : Int32) + (1 : Int32))))) vp_226 kp_226 (((List.replicate cnt.toNatClampNeg (.int 0)).set u.toNatClampNeg (.int (0 : Int32)))) cnt.toNatClampNeg T255.heap O260 P255_0 P255_2 c259 P255_3 c264 gew (by simp) (by simp) ltw n_vi_226 n_vp_226 p226_0 (Ne.symm ne239) (Ne.symm ne245)) (hw _ (List.mem_of_getElem? (i := 77) rfl)) (hw _ (List.mem_of_getElem? (i := 19) rfl)) e258 (argsL := [(.int w)]) (rest := []) (W := 0) rfl rfl pd_2 rfl (Nat.le_of_eq rfl) rfl (by decide) (by decide) (by decide) (by decide) at_181 rfl ?_
        intro T263 v263 L263 X263 q263
        obtain ⟨rfl, N263q, K263, P263_0, P263_1⟩ := q263
        have N263 := Fr.app N258 N263q
        refine Go.aload (pc' := 186) C X263 at_184 rfl rfl rfl ?_
        refine Go.iload (pc' := 188) C X263 at_186 rfl rfl ?_
        have c266 : Fld Z T263.heap b224 "com/example/opacheck/opacheck/PrecedenceTraversal" "number" "I" (.int (((0 : Int32) + (1 : Int32)) + (1 : Int32))) := (Fld.keep P255_0 K263 (ninS (Ne.symm ne239) (ninS (Ne.symm ne245) nin0)))
        have c267 : Fld Z T263.heap b224 "com/example/opacheck/opacheck/PrecedenceTraversal" "visitedIn" "[I" (.ref vi_226) := (Fld.keep P255_2 K263 (ninS (Ne.symm ne239) (ninS (Ne.symm ne245) nin0)))
        have O268 : Ext Z.heap T263.heap := (Ext.keep O260 K263 (allS n_vi_226 (allS n_vp_226 all0)))
        have c269 : Exa Z T263.heap b224 "com/example/opacheck/opacheck/PrecedenceTraversal" := (Exa.keep c261 K263)
        refine Go.callV (y := (⟨"com/example/opacheck/opacheck/PrecedenceTraversal", "visited", "(I)Z"⟩ : MethodName)) (z := (⟨"com/example/opacheck/opacheck/PrecedenceTraversal", "visited", "(I)Z"⟩ : MethodName)) (a := b224) (pc' := 191) C X263 (hw _ (List.mem_of_getElem? (i := 68) rfl)) (hw _ (List.mem_of_getElem? (i := 69) rfl)) (notFace_at C.2.1 (hw _ (List.mem_of_getElem? (i := 71) rfl))) (hw _ (List.mem_of_getElem? (i := 71) rfl)) (hw _ (List.mem_of_getElem? (i := 70) rfl)) c269 (by decide) (rm_vdF l Z a0 hw b224 t ((((0 : Int32) + (1 : Int32)) + (1 : Int32))) vi_226 ki_226 ((((List.replicate cnt.toNatClampNeg (.int 0)).set u.toNatClampNeg (.int ((0 : Int32) + (1 : Int32)))).set w.toNatClampNeg (.int (((0 : Int32) + (1 : Int32)) + (1 : Int32))))) (((0 : Int32) + (1 : Int32))) T263.heap O268 c266 c267 P263_0 get (own_miss get gew htw (own_hit htu (by simpa using ltt))) (by decide)) (hw _ (List.mem_of_getElem? (i := 72) rfl)) (hw _ (List.mem_of_getElem? (i := 19) rfl)) rfl (argsL := [(.int t)]) (rest := []) (W := 0) rfl rfl pd_5 rfl (Nat.le_of_eq rfl) rfl (by decide) (by decide) (by decide) (by decide) at_188 rfl ?_
        intro T265 v265 L265 X265 q265
        obtain ⟨rfl, rfl, e265⟩ := q265
        have N265 := Fr.app N263 (Fr.nil _)
        refine Go.iload (pc' := 193) C X265 at_191 rfl rfl ?_
        refine Go.iload (pc' := 195) C X265 at_193 rfl rfl ?_
        refine Go.icmpYes (pc' := 202) C X265 at_195 (feq (x := t) (y := w) htw).2 (by decide) (by decide) ?_
        refine Go.iconst (z := (0 : Int32)) (pc' := 203) C X265 at_202 rfl rfl ?_
        refine Go.icmpNo (pc' := 206) C X265 at_203 (teq (x := (0 : Int32)) (y := (0 : Int32)) (by decide)).2 rfl ?_
        refine Go.iconst (z := (1 : Int32)) (pc' := 207) C X265 at_206 rfl rfl ?_
        refine Go.goto (pc' := 211) C X265 at_207 (by decide) (by decide) ?_
        refine Go.istore (Ls' := #[.val (.int p1), .val (.int p2), .val (.int p3), .val (.int p4), .val (.int p5), .val (.int cnt), .val (.int t), .val (.int u), .val (.int w), .val (.int (0 : Int32)), .val (.ref b221), .val (.ref b224), .val (.int (1 : Int32)), .val (.int (1 : Int32)), .val (.int (1 : Int32)), .val (.int (1 : Int32))]) (pc' := 213) C X265 at_211 rfl rfl ?_
        refine Go.iload (pc' := 215) C X265 at_213 rfl rfl ?_
        refine Go.ifNo (pc' := 218) C X265 at_215 ((if0 _ _).trans (feq (x := (1 : Int32)) (y := (0 : Int32)) (by decide)).1) rfl ?_
        refine Go.iload (pc' := 220) C X265 at_218 rfl rfl ?_
        refine Go.ifNo (pc' := 223) C X265 at_220 ((if0 _ _).trans (feq (x := (1 : Int32)) (y := (0 : Int32)) (by decide)).1) rfl ?_
        refine Go.iload (pc' := 225) C X265 at_223 rfl rfl ?_
        refine Go.ifNo (pc' := 228) C X265 at_225 ((if0 _ _).trans (feq (x := (1 : Int32)) (y := (0 : Int32)) (by decide)).1) rfl ?_
        refine Go.iload (pc' := 230) C X265 at_228 rfl rfl ?_
        refine Go.ifNo (pc' := 233) C X265 at_230 ((if0 _ _).trans (feq (x := (1 : Int32)) (y := (0 : Int32)) (by decide)).1) rfl ?_
        refine Go.iconst (z := (1 : Int32)) (pc' := 234) C X265 at_233 rfl rfl ?_
        refine Go.goto (pc' := 238) C X265 at_234 (by decide) (by decide) ?_
        have K276 : Keep h0 T263.heap [] := (((((((((Keep.refl h0 []).ext E221).trans K222 (allS (Or.inr z_b221) all0)).ext E224).trans K226 (allS (Or.inr z_b224) all0)).trans K235 (allS (Or.inr z_b224) all0)).trans K244 (allS (Or.inr z_vi_226) (allS (Or.inr z_vp_226) all0))).trans K255 (allS (Or.inr z_b224) all0)).trans K263 (allS (Or.inr z_vi_226) (allS (Or.inr z_vp_226) all0)))
        exact Go.retN C X265 rfl at_238 (by simp) (by rw [e265]; exact ⟨rfl, N265, K276⟩) (by decide) (by decide)
      · refine Go.ifNo (pc' := 42) C X0 at_39 ((if0 _ _).trans (feq (x := (p5 &&& (1 : Int32))) (y := (0 : Int32)) hc39_220).1) rfl ?_
        refine Go.iconst (z := (1 : Int32)) (pc' := 43) C X0 at_42 rfl rfl ?_
        refine Go.goto (pc' := 47) C X0 at_43 (by decide) (by decide) ?_
        refine Go.istore (Ls' := #[.val (.int p1), .val (.int p2), .val (.int p3), .val (.int p4), .val (.int p5), .val (.int cnt), .val (.int t), .val (.int u), .val (.int w), .val (.int (1 : Int32)), .unset, .unset, .unset, .unset, .unset, .unset]) (pc' := 49) C X0 at_47 rfl rfl ?_
        refine Go.newO (pc' := 52) C X0 (hw _ (List.mem_of_getElem? (i := 1) rfl)) (hw _ (List.mem_of_getElem? (i := 2) rfl)) (hw _ (List.mem_of_getElem? (i := 3) rfl)) e0 (by decide) (by decide) at_49 rfl ?_
        intro T277 h277 b277 X277 e277 g277 E277 A277 D277
        have n_b277 : Z.heap.size ≤ b277 := Nat.le_trans O0.1 (Nat.le_of_eq g277.symm)
        have z_b277 : h0.size ≤ b277 := Nat.le_trans (Nat.le_refl _) (Nat.le_of_eq g277.symm)
        have F277_members : Fld Z h277 b277 "com/example/opacheck/opacheck/PrecedenceTraversal$Neighbours" "members" "[I" .null := D277 (Or.inl (hw _ (List.mem_of_getElem? (i := 12) rfl))) (ty := (.array .int)) (by decide)
        have F277_ranges : Fld Z h277 b277 "com/example/opacheck/opacheck/PrecedenceTraversal$Neighbours" "ranges" "[I" .null := D277 (Or.inl (hw _ (List.mem_of_getElem? (i := 14) rfl))) (ty := (.array .int)) (by decide)
        have F277_count : Fld Z h277 b277 "com/example/opacheck/opacheck/PrecedenceTraversal$Neighbours" "count" "I" (.int (0 : Int32)) := D277 (Or.inr (hw _ (List.mem_of_getElem? (i := 16) rfl))) (ty := .int) (by decide)
        have F277_size : Fld Z h277 b277 "com/example/opacheck/opacheck/PrecedenceTraversal$Neighbours" "size" "I" (.int (0 : Int32)) := D277 (Or.inl (hw _ (List.mem_of_getElem? (i := 27) rfl))) (ty := .int) (by decide)
        have F277_rangesSize : Fld Z h277 b277 "com/example/opacheck/opacheck/PrecedenceTraversal$Neighbours" "rangesSize" "I" (.int (0 : Int32)) := D277 (Or.inl (hw _ (List.mem_of_getElem? (i := 43) rfl))) (ty := .int) (by decide)
        refine Go.dup (pc' := 53) C X277 at_52 rfl rfl ?_
        refine Go.iload (pc' := 55) C X277 at_53 rfl rfl ?_
        have O279 : Ext Z.heap h277 := (Ext.trans O0 E277)
        refine Go.callI (y := (⟨"com/example/opacheck/opacheck/PrecedenceTraversal$Neighbours", "<init>", "(I)V"⟩ : MethodName)) (a := b277) (pc' := 58) C X277 rfl (hw _ (List.mem_of_getElem? (i := 4) rfl)) (hw _ (List.mem_of_getElem? (i := 5) rfl)) (by decide) (rm_nb l Z a0 hw b277 cnt h277 O279 A277 F277_members F277_ranges F277_count F277_size F277_rangesSize n_b277) (hw _ (List.mem_of_getElem? (i := 6) rfl)) (hw _ (List.mem_of_getElem? (i := 3) rfl)) e277 (argsL := [(.int cnt)]) (rest := [(.ref b277)]) (W := 1) rfl rfl pd_2 rfl (Nat.le_of_eq rfl) rfl (by decide) (by decide) (by decide) (by decide) rfl at_55 rfl ?_
        intro T278 v278 L278 X278 q278
        obtain ⟨v_278, k_278, rfl, N278q, K278, B278_0, P278_0, P278_1, P278_2, P278_3, P278_4⟩ := q278
        have N278 := Fr.app N0 N278q
        have n_v_278 : Z.heap.size ≤ v_278 := Nat.le_trans O279.1 B278_0
        have z_v_278 : h0.size ≤ v_278 := Nat.le_trans (Nat.le_trans (Nat.le_refl _) E277.1) B278_0
        refine Go.astore (Ls' := #[.val (.int p1), .val (.int p2), .val (.int p3), .val (.int p4), .val (.int p5), .val (.int cnt), .val (.int t), .val (.int u), .val (.int w), .val (.int (1 : Int32)), .val (.ref b277), .unset, .unset, .unset, .unset, .unset]) (pc' := 60) C X278 at_58 rfl rfl rfl ?_
        have O281 : Ext Z.heap T278.heap := (Ext.keep O279 K278 (allS n_b277 all0))
        refine Go.newO (pc' := 63) C X278 (hw _ (List.mem_of_getElem? (i := 17) rfl)) (hw _ (List.mem_of_getElem? (i := 18) rfl)) (hw _ (List.mem_of_getElem? (i := 19) rfl)) rfl (by decide) (by decide) at_60 rfl ?_
        intro T280 h280 b280 X280 e280 g280 E280 A280 D280
        have n_b280 : Z.heap.size ≤ b280 := Nat.le_trans O281.1 (Nat.le_of_eq g280.symm)
        have z_b280 : h0.size ≤ b280 := Nat.le_trans (Nat.le_trans (Nat.le_trans (Nat.le_refl _) E277.1) K278.1) (Nat.le_of_eq g280.symm)
        have F280_members : Fld Z h280 b280 "com/example/opacheck/opacheck/PrecedenceTraversal" "members" "[I" .null := D280 (Or.inr (hw _ (List.mem_of_getElem? (i := 41) rfl))) (ty := (.array .int)) (by decide)
        have F280_ranges : Fld Z h280 b280 "com/example/opacheck/opacheck/PrecedenceTraversal" "ranges" "[[I" .null := D280 (Or.inr (hw _ (List.mem_of_getElem? (i := 47) rfl))) (ty := (.array (.array .int))) (by decide)
        have F280_visitedIn : Fld Z h280 b280 "com/example/opacheck/opacheck/PrecedenceTraversal" "visitedIn" "[I" .null := D280 (Or.inr (hw _ (List.mem_of_getElem? (i := 50) rfl))) (ty := (.array .int)) (by decide)
        have F280_positions : Fld Z h280 b280 "com/example/opacheck/opacheck/PrecedenceTraversal" "positions" "[I" .null := D280 (Or.inr (hw _ (List.mem_of_getElem? (i := 52) rfl))) (ty := (.array .int)) (by decide)
        have F280_links : Fld Z h280 b280 "com/example/opacheck/opacheck/PrecedenceTraversal" "links" "[I" .null := D280 (Or.inr (hw _ (List.mem_of_getElem? (i := 54) rfl))) (ty := (.array .int)) (by decide)
        have F280_linkedIn : Fld Z h280 b280 "com/example/opacheck/opacheck/PrecedenceTraversal" "linkedIn" "[I" .null := D280 (Or.inr (hw _ (List.mem_of_getElem? (i := 56) rfl))) (ty := (.array .int)) (by decide)
        have F280_path : Fld Z h280 b280 "com/example/opacheck/opacheck/PrecedenceTraversal" "path" "[I" .null := D280 (Or.inr (hw _ (List.mem_of_getElem? (i := 58) rfl))) (ty := (.array .int)) (by decide)
        have F280_number : Fld Z h280 b280 "com/example/opacheck/opacheck/PrecedenceTraversal" "number" "I" (.int (0 : Int32)) := D280 (Or.inl (hw _ (List.mem_of_getElem? (i := 65) rfl))) (ty := .int) (by decide)
        have F280_scope : Fld Z h280 b280 "com/example/opacheck/opacheck/PrecedenceTraversal" "scope" "Ljava/util/function/IntPredicate;" .null := D280 (Or.inl (hw _ (List.mem_of_getElem? (i := 67) rfl))) (ty := (.object "java/util/function/IntPredicate")) (by decide)
        refine Go.dup (pc' := 64) C X280 at_63 rfl rfl ?_
        refine Go.aload (pc' := 66) C X280 at_64 rfl rfl rfl ?_
        have c283 : Fld Z h280 b277 "com/example/opacheck/opacheck/PrecedenceTraversal$Neighbours" "members" "[I" (.ref v_278) := (Fld.ext E280 P278_0)
        have c284 : AL Z h280 v_278 k_278 .int [(.int (0 : Int32)), (.int (0 : Int32)), (.int (0 : Int32)), (.int (0 : Int32)), (.int (0 : Int32)), (.int (0 : Int32)), (.int (0 : Int32)), (.int (0 : Int32)), (.int (0 : Int32)), (.int (0 : Int32)), (.int (0 : Int32)), (.int (0 : Int32)), (.int (0 : Int32)), (.int (0 : Int32)), (.int (0 : Int32)), (.int (0 : Int32))] := (AL.ext E280 P278_1)
        have c285 : Fld Z h280 b277 "com/example/opacheck/opacheck/PrecedenceTraversal$Neighbours" "size" "I" (.int (0 : Int32)) := (Fld.ext E280 P278_3)
        have c286 : Fld Z h280 b277 "com/example/opacheck/opacheck/PrecedenceTraversal$Neighbours" "rangesSize" "I" (.int (0 : Int32)) := (Fld.ext E280 P278_4)
        have c287 : Fld Z h280 b277 "com/example/opacheck/opacheck/PrecedenceTraversal$Neighbours" "count" "I" (.int cnt) := (Fld.ext E280 P278_2)
        have ne288 : b280 ≠ b277 := (Nat.ne_of_gt (Nat.lt_of_lt_of_le A277.lt (Nat.le_trans (Nat.le_trans (Nat.le_refl _) K278.1) (Nat.le_of_eq g280.symm))))
        have ne289 : b280 ≠ v_278 := (Nat.ne_of_gt (Nat.lt_of_lt_of_le P278_1.lt (Nat.le_trans (Nat.le_refl _) (Nat.le_of_eq g280.symm))))
        have O290 : Ext Z.heap h280 := (Ext.trans O281 E280)
        refine Go.callI (y := (⟨"com/example/opacheck/opacheck/PrecedenceTraversal", "<init>", "(Lcom/example/opacheck/opacheck/PrecedenceTraversal$Neighbours;)V"⟩ : MethodName)) (a := b280) (pc' := 69) C X280 rfl (hw _ (List.mem_of_getElem? (i := 20) rfl)) (hw _ (List.mem_of_getElem? (i := 21) rfl)) (by decide) (rm_ctg l Z a0 hw b280 b277 v_278 k_278 cnt h280 O290 A280 F280_members F280_ranges F280_visitedIn F280_positions F280_links F280_linkedIn F280_path F280_number F280_scope c283 c284 c285 c286 c287 n_b280 ne288 ne289 hcnt) (hw _ (List.mem_of_getElem? (i := 22) rfl)) (hw _ (List.mem_of_getElem? (i := 19) rfl)) e280 (argsL := [(.ref b277)]) (rest := [(.ref b280)]) (W := 1) rfl rfl pd_3 rfl (Nat.le_of_eq rfl) rfl (by decide) (by decide) (by decide) (by decide) rfl at_66 rfl ?_
        intro T282 v282 L282 X282 q282
        obtain ⟨vi_282, ki_282, vp_282, kp_282, rfl, N282q, K282, B282_0, B282_1, P282_0, P282_1, P282_2, P282_3, P282_4, P282_5, p282_0⟩ := q282
        have N282 := Fr.app N278 N282q
        have n_vi_282 : Z.heap.size ≤ vi_282 := Nat.le_trans O290.1 B282_0
        have z_vi_282 : h0.size ≤ vi_282 := Nat.le_trans (Nat.le_trans (Nat.le_trans (Nat.le_trans (Nat.le_refl _) E277.1) K278.1) E280.1) B282_0
        have n_vp_282 : Z.heap.size ≤ vp_282 := Nat.le_trans O290.1 B282_1
        have z_vp_282 : h0.size ≤ vp_282 := Nat.le_trans (Nat.le_trans (Nat.le_trans (Nat.le_trans (Nat.le_refl _) E277.1) K278.1) E280.1) B282_1
        refine Go.astore (Ls' := #[.val (.int p1), .val (.int p2), .val (.int p3), .val (.int p4), .val (.int p5), .val (.int cnt), .val (.int t), .val (.int u), .val (.int w), .val (.int (1 : Int32)), .val (.ref b277), .val (.ref b280), .unset, .unset, .unset, .unset]) (pc' := 71) C X282 at_69 rfl rfl rfl ?_
        refine Go.aload (pc' := 73) C X282 at_71 rfl rfl rfl ?_
        refine Go.aconstNull (pc' := 74) C X282 at_73 rfl ?_
        have c292 : Exa Z T282.heap b280 "com/example/opacheck/opacheck/PrecedenceTraversal" := (Exa.keep A280 K282)
        have O293 : Ext Z.heap T282.heap := (Ext.keep O290 K282 (allS n_b280 all0))
        refine Go.callV (y := (⟨"com/example/opacheck/opacheck/PrecedenceTraversal", "restart", "(Ljava/util/function/IntPredicate;)V"⟩ : MethodName)) (z := (⟨"com/example/opacheck/opacheck/PrecedenceTraversal", "restart", "(Ljava/util/function/IntPredicate;)V"⟩ : MethodName)) (a := b280) (pc' := 77) C X282 (hw _ (List.mem_of_getElem? (i := 59) rfl)) (hw _ (List.mem_of_getElem? (i := 60) rfl)) (notFace_at C.2.1 (hw _ (List.mem_of_getElem? (i := 62) rfl))) (hw _ (List.mem_of_getElem? (i := 62) rfl)) (hw _ (List.mem_of_getElem? (i := 61) rfl)) c292 (by decide) (rm_rst l Z a0 hw b280 ((0 : Int32)) vi_282 vp_282 T282.heap O293 c292 P282_4 P282_5 P282_0 P282_2 n_b280) (hw _ (List.mem_of_getElem? (i := 63) rfl)) (hw _ (List.mem_of_getElem? (i := 19) rfl)) rfl (argsL := [.null]) (rest := []) (W := 0) rfl rfl pd_4 rfl (Nat.le_of_eq rfl) rfl (by decide) (by decide) (by decide) (by decide) at_74 rfl ?_
        intro T291 v291 L291 X291 q291
        obtain ⟨rfl, N291q, K291, P291_0, P291_1, P291_2, P291_3⟩ := q291
        have N291 := Fr.app N282 N291q
        refine Go.aload (pc' := 79) C X291 at_77 rfl rfl rfl ?_
        refine Go.iload (pc' := 81) C X291 at_79 rfl rfl ?_
        have ne295 : vi_282 ≠ b280 := (Nat.ne_of_gt (Nat.lt_of_lt_of_le A280.lt (Nat.le_trans (Nat.le_refl _) B282_0)))
        have c296 : AL Z T291.heap vi_282 ki_282 .int (List.replicate cnt.toNatClampNeg (.int 0)) := (AL.keep P282_1 K291 (ninS ne295 nin0))
        have O297 : Ext Z.heap T291.heap := (Ext.keep O293 K291 (allS n_b280 all0))
        have c298 : Exa Z T291.heap b280 "com/example/opacheck/opacheck/PrecedenceTraversal" := (Exa.keep c292 K291)
        refine Go.callV (y := (⟨"com/example/opacheck/opacheck/PrecedenceTraversal", "visited", "(I)Z"⟩ : MethodName)) (z := (⟨"com/example/opacheck/opacheck/PrecedenceTraversal", "visited", "(I)Z"⟩ : MethodName)) (a := b280) (pc' := 84) C X291 (hw _ (List.mem_of_getElem? (i := 68) rfl)) (hw _ (List.mem_of_getElem? (i := 69) rfl)) (notFace_at C.2.1 (hw _ (List.mem_of_getElem? (i := 71) rfl))) (hw _ (List.mem_of_getElem? (i := 71) rfl)) (hw _ (List.mem_of_getElem? (i := 70) rfl)) c298 (by decide) (rm_vdF l Z a0 hw b280 t (((0 : Int32) + (1 : Int32))) vi_282 ki_282 ((List.replicate cnt.toNatClampNeg (.int 0))) ((0 : Int32)) T291.heap O297 P291_0 P291_2 c296 get (own_at _ _ ltt) (by decide)) (hw _ (List.mem_of_getElem? (i := 72) rfl)) (hw _ (List.mem_of_getElem? (i := 19) rfl)) rfl (argsL := [(.int t)]) (rest := []) (W := 0) rfl rfl pd_5 rfl (Nat.le_of_eq rfl) rfl (by decide) (by decide) (by decide) (by decide) at_81 rfl ?_
        intro T294 v294 L294 X294 q294
        obtain ⟨rfl, rfl, e294⟩ := q294
        have N294 := Fr.app N291 (Fr.nil _)
        refine Go.ifNo (pc' := 87) C X294 at_84 ((if0 _ _).trans (teq (x := (0 : Int32)) (y := (0 : Int32)) (by decide)).2) rfl ?_
        refine Go.iconst (z := (1 : Int32)) (pc' := 88) C X294 at_87 rfl rfl ?_
        refine Go.goto (pc' := 92) C X294 at_88 (by decide) (by decide) ?_
        refine Go.istore (Ls' := #[.val (.int p1), .val (.int p2), .val (.int p3), .val (.int p4), .val (.int p5), .val (.int cnt), .val (.int t), .val (.int u), .val (.int w), .val (.int (1 : Int32)), .val (.ref b277), .val (.ref b280), .val (.int (1 : Int32)), .unset, .unset, .unset]) (pc' := 94) C X294 at_92 rfl rfl ?_
        refine Go.aload (pc' := 96) C X294 at_94 rfl rfl rfl ?_
        refine Go.iload (pc' := 98) C X294 at_96 rfl rfl ?_
        have ne301 : vp_282 ≠ b280 := (Nat.ne_of_gt (Nat.lt_of_lt_of_le A280.lt (Nat.le_trans (Nat.le_refl _) B282_1)))
        have c302 : AL Z T291.heap vp_282 kp_282 .int (List.replicate cnt.toNatClampNeg (.int 0)) := (AL.keep P282_3 K291 (ninS ne301 nin0))
        refine Go.callV (y := (⟨"com/example/opacheck/opacheck/PrecedenceTraversal", "visit", "(I)V"⟩ : MethodName)) (z := (⟨"com/example/opacheck/opacheck/PrecedenceTraversal", "visit", "(I)V"⟩ : MethodName)) (a := b280) (pc' := 101) C X294 (hw _ (List.mem_of_getElem? (i := 73) rfl)) (hw _ (List.mem_of_getElem? (i := 74) rfl)) (notFace_at C.2.1 (hw _ (List.mem_of_getElem? (i := 76) rfl))) (hw _ (List.mem_of_getElem? (i := 76) rfl)) (hw _ (List.mem_of_getElem? (i := 75) rfl)) c298 (by decide) (rm_vis l Z a0 hw b280 u (((0 : Int32) + (1 : Int32))) vi_282 ki_282 ((List.replicate cnt.toNatClampNeg (.int 0))) vp_282 kp_282 ((List.replicate cnt.toNatClampNeg (.int 0))) cnt.toNatClampNeg T291.heap O297 P291_0 P291_2 c296 P291_3 c302 geu (by simp) (by simp) ltu n_vi_282 n_vp_282 p282_0 (Ne.symm ne295) (Ne.symm ne301)) (hw _ (List.mem_of_getElem? (i := 77) rfl)) (hw _ (List.mem_of_getElem? (i := 19) rfl)) e294 (argsL := [(.int u)]) (rest := []) (W := 0) rfl rfl pd_2 rfl (Nat.le_of_eq rfl) rfl (by decide) (by decide) (by decide) (by decide) at_98 rfl ?_
        intro T300 v300 L300 X300 q300
        obtain ⟨rfl, N300q, K300, P300_0, P300_1⟩ := q300
        have N300 := Fr.app N294 N300q
        refine Go.iload (pc' := 103) C X300 at_101 rfl rfl ?_
        refine Go.ifNo (pc' := 106) C X300 at_103 ((if0 _ _).trans (feq (x := (1 : Int32)) (y := (0 : Int32)) (by decide)).1) rfl ?_
        refine Go.aload (pc' := 108) C X300 at_106 rfl rfl rfl ?_
        refine Go.iload (pc' := 110) C X300 at_108 rfl rfl ?_
        have c305 : Fld Z T300.heap b280 "com/example/opacheck/opacheck/PrecedenceTraversal" "number" "I" (.int ((0 : Int32) + (1 : Int32))) := (Fld.keep P291_0 K300 (ninS (Ne.symm ne295) (ninS (Ne.symm ne301) nin0)))
        have c306 : Fld Z T300.heap b280 "com/example/opacheck/opacheck/PrecedenceTraversal" "visitedIn" "[I" (.ref vi_282) := (Fld.keep P291_2 K300 (ninS (Ne.symm ne295) (ninS (Ne.symm ne301) nin0)))
        have c307 : Fld Z T300.heap b280 "com/example/opacheck/opacheck/PrecedenceTraversal" "positions" "[I" (.ref vp_282) := (Fld.keep P291_3 K300 (ninS (Ne.symm ne295) (ninS (Ne.symm ne301) nin0)))
        have O308 : Ext Z.heap T300.heap := (Ext.keep O297 K300 (allS n_vi_282 (allS n_vp_282 all0)))
        have c309 : Exa Z T300.heap b280 "com/example/opacheck/opacheck/PrecedenceTraversal" := (Exa.keep c298 K300)
        refine Go.callV (y := (⟨"com/example/opacheck/opacheck/PrecedenceTraversal", "visit", "(I)V"⟩ : MethodName)) (z := (⟨"com/example/opacheck/opacheck/PrecedenceTraversal", "visit", "(I)V"⟩ : MethodName)) (a := b280) (pc' := 113) C X300 (hw _ (List.mem_of_getElem? (i := 73) rfl)) (hw _ (List.mem_of_getElem? (i := 74) rfl)) (notFace_at C.2.1 (hw _ (List.mem_of_getElem? (i := 76) rfl))) (hw _ (List.mem_of_getElem? (i := 76) rfl)) (hw _ (List.mem_of_getElem? (i := 75) rfl)) c309 (by decide) (rm_vis l Z a0 hw b280 w (((0 : Int32) + (1 : Int32))) vi_282 ki_282 (((List.replicate cnt.toNatClampNeg (.int 0)).set u.toNatClampNeg (.int ((0 : Int32) + (1 : Int32))))) vp_282 kp_282 (((List.replicate cnt.toNatClampNeg (.int 0)).set u.toNatClampNeg (.int (0 : Int32)))) cnt.toNatClampNeg T300.heap O308 c305 c306 P300_0 c307 P300_1 gew (by simp) (by simp) ltw n_vi_282 n_vp_282 p282_0 (Ne.symm ne295) (Ne.symm ne301)) (hw _ (List.mem_of_getElem? (i := 77) rfl)) (hw _ (List.mem_of_getElem? (i := 19) rfl)) rfl (argsL := [(.int w)]) (rest := []) (W := 0) rfl rfl pd_2 rfl (Nat.le_of_eq rfl) rfl (by decide) (by decide) (by decide) (by decide) at_110 rfl ?_
        intro T304 v304 L304 X304 q304
        obtain ⟨rfl, N304q, K304, P304_0, P304_1⟩ := q304
        have N304 := Fr.app N300 N304q
        refine Go.aload (pc' := 115) C X304 at_113 rfl rfl rfl ?_
        refine Go.iload (pc' := 117) C X304 at_115 rfl rfl ?_
        have c311 : Fld Z T304.heap b280 "com/example/opacheck/opacheck/PrecedenceTraversal" "number" "I" (.int ((0 : Int32) + (1 : Int32))) := (Fld.keep c305 K304 (ninS (Ne.symm ne295) (ninS (Ne.symm ne301) nin0)))
        have c312 : Fld Z T304.heap b280 "com/example/opacheck/opacheck/PrecedenceTraversal" "visitedIn" "[I" (.ref vi_282) := (Fld.keep c306 K304 (ninS (Ne.symm ne295) (ninS (Ne.symm ne301) nin0)))
        have O313 : Ext Z.heap T304.heap := (Ext.keep O308 K304 (allS n_vi_282 (allS n_vp_282 all0)))
        have c314 : Exa Z T304.heap b280 "com/example/opacheck/opacheck/PrecedenceTraversal" := (Exa.keep c309 K304)
        refine Go.callV (y := (⟨"com/example/opacheck/opacheck/PrecedenceTraversal", "visited", "(I)Z"⟩ : MethodName)) (z := (⟨"com/example/opacheck/opacheck/PrecedenceTraversal", "visited", "(I)Z"⟩ : MethodName)) (a := b280) (pc' := 120) C X304 (hw _ (List.mem_of_getElem? (i := 68) rfl)) (hw _ (List.mem_of_getElem? (i := 69) rfl)) (notFace_at C.2.1 (hw _ (List.mem_of_getElem? (i := 71) rfl))) (hw _ (List.mem_of_getElem? (i := 71) rfl)) (hw _ (List.mem_of_getElem? (i := 70) rfl)) c314 (by decide) (rm_vdT l Z a0 hw b280 t (((0 : Int32) + (1 : Int32))) vi_282 ki_282 ((((List.replicate cnt.toNatClampNeg (.int 0)).set u.toNatClampNeg (.int ((0 : Int32) + (1 : Int32)))).set w.toNatClampNeg (.int ((0 : Int32) + (1 : Int32))))) (((0 : Int32) + (1 : Int32))) T304.heap O313 c311 c312 P304_0 get (own_miss get gew htw (own_hit htu (by simpa using ltt))) rfl) (hw _ (List.mem_of_getElem? (i := 72) rfl)) (hw _ (List.mem_of_getElem? (i := 19) rfl)) rfl (argsL := [(.int t)]) (rest := []) (W := 0) rfl rfl pd_5 rfl (Nat.le_of_eq rfl) rfl (by decide) (by decide) (by decide) (by decide) at_117 rfl ?_
        intro T310 v310 L310 X310 q310
        obtain ⟨rfl, rfl, e310⟩ := q310
        have N310 := Fr.app N304 (Fr.nil _)
        refine Go.iload (pc' := 122) C X310 at_120 rfl rfl ?_
        refine Go.iload (pc' := 124) C X310 at_122 rfl rfl ?_
        refine Go.icmpYes (pc' := 139) C X310 at_124 (teq (x := t) (y := u) htu).1 (by decide) (by decide) ?_
        refine Go.iconst (z := (1 : Int32)) (pc' := 140) C X310 at_139 rfl rfl ?_
        refine Go.goto (pc' := 144) C X310 at_140 (by decide) (by decide) ?_
        refine Go.icmpNo (pc' := 147) C X310 at_144 (teq (x := (1 : Int32)) (y := (1 : Int32)) (by decide)).2 rfl ?_
        refine Go.iconst (z := (1 : Int32)) (pc' := 148) C X310 at_147 rfl rfl ?_
        refine Go.goto (pc' := 152) C X310 at_148 (by decide) (by decide) ?_
        refine Go.istore (Ls' := #[.val (.int p1), .val (.int p2), .val (.int p3), .val (.int p4), .val (.int p5), .val (.int cnt), .val (.int t), .val (.int u), .val (.int w), .val (.int (1 : Int32)), .val (.ref b277), .val (.ref b280), .val (.int (1 : Int32)), .val (.int (1 : Int32)), .unset, .unset]) (pc' := 154) C X310 at_152 rfl rfl ?_
        refine Go.aload (pc' := 156) C X310 at_154 rfl rfl rfl ?_
        refine Go.aconstNull (pc' := 157) C X310 at_156 rfl ?_
        have c318 : Fld Z T304.heap b280 "com/example/opacheck/opacheck/PrecedenceTraversal" "scope" "Ljava/util/function/IntPredicate;" .null := (Fld.keep (Fld.keep P291_1 K300 (ninS (Ne.symm ne295) (ninS (Ne.symm ne301) nin0))) K304 (ninS (Ne.symm ne295) (ninS (Ne.symm ne301) nin0)))
        have c319 : Fld Z T304.heap b280 "com/example/opacheck/opacheck/PrecedenceTraversal" "positions" "[I" (.ref vp_282) := (Fld.keep c307 K304 (ninS (Ne.symm ne295) (ninS (Ne.symm ne301) nin0)))
        refine Go.callV (y := (⟨"com/example/opacheck/opacheck/PrecedenceTraversal", "restart", "(Ljava/util/function/IntPredicate;)V"⟩ : MethodName)) (z := (⟨"com/example/opacheck/opacheck/PrecedenceTraversal", "restart", "(Ljava/util/function/IntPredicate;)V"⟩ : MethodName)) (a := b280) (pc' := 160) C X310 (hw _ (List.mem_of_getElem? (i := 59) rfl)) (hw _ (List.mem_of_getElem? (i := 60) rfl)) (notFace_at C.2.1 (hw _ (List.mem_of_getElem? (i := 62) rfl))) (hw _ (List.mem_of_getElem? (i := 62) rfl)) (hw _ (List.mem_of_getElem? (i := 61) rfl)) c314 (by decide) (rm_rst l Z a0 hw b280 (((0 : Int32) + (1 : Int32))) vi_282 vp_282 T304.heap O313 c314 c311 c318 c312 c319 n_b280) (hw _ (List.mem_of_getElem? (i := 63) rfl)) (hw _ (List.mem_of_getElem? (i := 19) rfl)) e310 (argsL := [.null]) (rest := []) (W := 0) rfl rfl pd_4 rfl (Nat.le_of_eq rfl) rfl (by decide) (by decide) (by decide) (by decide) at_157 rfl ?_
        intro T317 v317 L317 X317 q317
        obtain ⟨rfl, N317q, K317, P317_0, P317_1, P317_2, P317_3⟩ := q317
        have N317 := Fr.app N310 N317q
        refine Go.aload (pc' := 162) C X317 at_160 rfl rfl rfl ?_
        refine Go.iload (pc' := 164) C X317 at_162 rfl rfl ?_
        have c321 : AL Z T317.heap vi_282 ki_282 .int (((List.replicate cnt.toNatClampNeg (.int 0)).set u.toNatClampNeg (.int ((0 : Int32) + (1 : Int32)))).set w.toNatClampNeg (.int ((0 : Int32) + (1 : Int32)))) := (AL.keep P304_0 K317 (ninS ne295 nin0))
        have O322 : Ext Z.heap T317.heap := (Ext.keep O313 K317 (allS n_b280 all0))
        have c323 : Exa Z T317.heap b280 "com/example/opacheck/opacheck/PrecedenceTraversal" := (Exa.keep c314 K317)
        refine Go.callV (y := (⟨"com/example/opacheck/opacheck/PrecedenceTraversal", "visited", "(I)Z"⟩ : MethodName)) (z := (⟨"com/example/opacheck/opacheck/PrecedenceTraversal", "visited", "(I)Z"⟩ : MethodName)) (a := b280) (pc' := 167) C X317 (hw _ (List.mem_of_getElem? (i := 68) rfl)) (hw _ (List.mem_of_getElem? (i := 69) rfl)) (notFace_at C.2.1 (hw _ (List.mem_of_getElem? (i := 71) rfl))) (hw _ (List.mem_of_getElem? (i := 71) rfl)) (hw _ (List.mem_of_getElem? (i := 70) rfl)) c323 (by decide) (rm_vdF l Z a0 hw b280 t ((((0 : Int32) + (1 : Int32)) + (1 : Int32))) vi_282 ki_282 ((((List.replicate cnt.toNatClampNeg (.int 0)).set u.toNatClampNeg (.int ((0 : Int32) + (1 : Int32)))).set w.toNatClampNeg (.int ((0 : Int32) + (1 : Int32))))) (((0 : Int32) + (1 : Int32))) T317.heap O322 P317_0 P317_2 c321 get (own_miss get gew htw (own_hit htu (by simpa using ltt))) (by decide)) (hw _ (List.mem_of_getElem? (i := 72) rfl)) (hw _ (List.mem_of_getElem? (i := 19) rfl)) rfl (argsL := [(.int t)]) (rest := []) (W := 0) rfl rfl pd_5 rfl (Nat.le_of_eq rfl) rfl (by decide) (by decide) (by decide) (by decide) at_164 rfl ?_
        intro T320 v320 L320 X320 q320
        obtain ⟨rfl, rfl, e320⟩ := q320
        have N320 := Fr.app N317 (Fr.nil _)
        refine Go.ifNo (pc' := 170) C X320 at_167 ((if0 _ _).trans (teq (x := (0 : Int32)) (y := (0 : Int32)) (by decide)).2) rfl ?_
        refine Go.iconst (z := (1 : Int32)) (pc' := 171) C X320 at_170 rfl rfl ?_
        refine Go.goto (pc' := 175) C X320 at_171 (by decide) (by decide) ?_
        refine Go.istore (Ls' := #[.val (.int p1), .val (.int p2), .val (.int p3), .val (.int p4), .val (.int p5), .val (.int cnt), .val (.int t), .val (.int u), .val (.int w), .val (.int (1 : Int32)), .val (.ref b277), .val (.ref b280), .val (.int (1 : Int32)), .val (.int (1 : Int32)), .val (.int (1 : Int32)), .unset]) (pc' := 177) C X320 at_175 rfl rfl ?_
        refine Go.aload (pc' := 179) C X320 at_177 rfl rfl rfl ?_
        refine Go.iload (pc' := 181) C X320 at_179 rfl rfl ?_
        have c326 : AL Z T317.heap vp_282 kp_282 .int (((List.replicate cnt.toNatClampNeg (.int 0)).set u.toNatClampNeg (.int (0 : Int32))).set w.toNatClampNeg (.int (0 : Int32))) := (AL.keep P304_1 K317 (ninS ne301 nin0))
        refine Go.callV (y := (⟨"com/example/opacheck/opacheck/PrecedenceTraversal", "visit", "(I)V"⟩ : MethodName)) (z := (⟨"com/example/opacheck/opacheck/PrecedenceTraversal", "visit", "(I)V"⟩ : MethodName)) (a := b280) (pc' := 184) C X320 (hw _ (List.mem_of_getElem? (i := 73) rfl)) (hw _ (List.mem_of_getElem? (i := 74) rfl)) (notFace_at C.2.1 (hw _ (List.mem_of_getElem? (i := 76) rfl))) (hw _ (List.mem_of_getElem? (i := 76) rfl)) (hw _ (List.mem_of_getElem? (i := 75) rfl)) c323 (by decide) (rm_vis l Z a0 hw b280 w ((((0 : Int32) + (1 : Int32)) + (1 : Int32))) vi_282 ki_282 ((((List.replicate cnt.toNatClampNeg (.int 0)).set u.toNatClampNeg (.int ((0 : Int32) + (1 : Int32)))).set w.toNatClampNeg (.int ((0 : Int32) + (1 : Int32))))) vp_282 kp_282 ((((List.replicate cnt.toNatClampNeg (.int 0)).set u.toNatClampNeg (.int (0 : Int32))).set w.toNatClampNeg (.int (0 : Int32)))) cnt.toNatClampNeg T317.heap O322 P317_0 P317_2 c321 P317_3 c326 gew (by simp) (by simp) ltw n_vi_282 n_vp_282 p282_0 (Ne.symm ne295) (Ne.symm ne301)) (hw _ (List.mem_of_getElem? (i := 77) rfl)) (hw _ (List.mem_of_getElem? (i := 19) rfl)) e320 (argsL := [(.int w)]) (rest := []) (W := 0) rfl rfl pd_2 rfl (Nat.le_of_eq rfl) rfl (by decide) (by decide) (by decide) (by decide) at_181 rfl ?_
        intro T325 v325 L325 X325 q325
        obtain ⟨rfl, N325q, K325, P325_0, P325_1⟩ := q325
        have N325 := Fr.app N320 N325q
        refine Go.aload (pc' := 186) C X325 at_184 rfl rfl rfl ?_
        refine Go.iload (pc' := 188) C X325 at_186 rfl rfl ?_
        have c328 : Fld Z T325.heap b280 "com/example/opacheck/opacheck/PrecedenceTraversal" "number" "I" (.int (((0 : Int32) + (1 : Int32)) + (1 : Int32))) := (Fld.keep P317_0 K325 (ninS (Ne.symm ne295) (ninS (Ne.symm ne301) nin0)))
        have c329 : Fld Z T325.heap b280 "com/example/opacheck/opacheck/PrecedenceTraversal" "visitedIn" "[I" (.ref vi_282) := (Fld.keep P317_2 K325 (ninS (Ne.symm ne295) (ninS (Ne.symm ne301) nin0)))
        have O330 : Ext Z.heap T325.heap := (Ext.keep O322 K325 (allS n_vi_282 (allS n_vp_282 all0)))
        have c331 : Exa Z T325.heap b280 "com/example/opacheck/opacheck/PrecedenceTraversal" := (Exa.keep c323 K325)
        refine Go.callV (y := (⟨"com/example/opacheck/opacheck/PrecedenceTraversal", "visited", "(I)Z"⟩ : MethodName)) (z := (⟨"com/example/opacheck/opacheck/PrecedenceTraversal", "visited", "(I)Z"⟩ : MethodName)) (a := b280) (pc' := 191) C X325 (hw _ (List.mem_of_getElem? (i := 68) rfl)) (hw _ (List.mem_of_getElem? (i := 69) rfl)) (notFace_at C.2.1 (hw _ (List.mem_of_getElem? (i := 71) rfl))) (hw _ (List.mem_of_getElem? (i := 71) rfl)) (hw _ (List.mem_of_getElem? (i := 70) rfl)) c331 (by decide) (rm_vdF l Z a0 hw b280 t ((((0 : Int32) + (1 : Int32)) + (1 : Int32))) vi_282 ki_282 (((((List.replicate cnt.toNatClampNeg (.int 0)).set u.toNatClampNeg (.int ((0 : Int32) + (1 : Int32)))).set w.toNatClampNeg (.int ((0 : Int32) + (1 : Int32)))).set w.toNatClampNeg (.int (((0 : Int32) + (1 : Int32)) + (1 : Int32))))) (((0 : Int32) + (1 : Int32))) T325.heap O330 c328 c329 P325_0 get (own_miss get gew htw (own_miss get gew htw (own_hit htu (by simpa using ltt)))) (by decide)) (hw _ (List.mem_of_getElem? (i := 72) rfl)) (hw _ (List.mem_of_getElem? (i := 19) rfl)) rfl (argsL := [(.int t)]) (rest := []) (W := 0) rfl rfl pd_5 rfl (Nat.le_of_eq rfl) rfl (by decide) (by decide) (by decide) (by decide) at_188 rfl ?_
        intro T327 v327 L327 X327 q327
        obtain ⟨rfl, rfl, e327⟩ := q327
        have N327 := Fr.app N325 (Fr.nil _)
        refine Go.iload (pc' := 193) C X327 at_191 rfl rfl ?_
        refine Go.iload (pc' := 195) C X327 at_193 rfl rfl ?_
        refine Go.icmpYes (pc' := 202) C X327 at_195 (feq (x := t) (y := w) htw).2 (by decide) (by decide) ?_
        refine Go.iconst (z := (0 : Int32)) (pc' := 203) C X327 at_202 rfl rfl ?_
        refine Go.icmpNo (pc' := 206) C X327 at_203 (teq (x := (0 : Int32)) (y := (0 : Int32)) (by decide)).2 rfl ?_
        refine Go.iconst (z := (1 : Int32)) (pc' := 207) C X327 at_206 rfl rfl ?_
        refine Go.goto (pc' := 211) C X327 at_207 (by decide) (by decide) ?_
        refine Go.istore (Ls' := #[.val (.int p1), .val (.int p2), .val (.int p3), .val (.int p4), .val (.int p5), .val (.int cnt), .val (.int t), .val (.int u), .val (.int w), .val (.int (1 : Int32)), .val (.ref b277), .val (.ref b280), .val (.int (1 : Int32)), .val (.int (1 : Int32)), .val (.int (1 : Int32)), .val (.int (1 : Int32))]) (pc' := 213) C X327 at_211 rfl rfl ?_
        refine Go.iload (pc' := 215) C X327 at_213 rfl rfl ?_
        refine Go.ifNo (pc' := 218) C X327 at_215 ((if0 _ _).trans (feq (x := (1 : Int32)) (y := (0 : Int32)) (by decide)).1) rfl ?_
        refine Go.iload (pc' := 220) C X327 at_218 rfl rfl ?_
        refine Go.ifNo (pc' := 223) C X327 at_220 ((if0 _ _).trans (feq (x := (1 : Int32)) (y := (0 : Int32)) (by decide)).1) rfl ?_
        refine Go.iload (pc' := 225) C X327 at_223 rfl rfl ?_
        refine Go.ifNo (pc' := 228) C X327 at_225 ((if0 _ _).trans (feq (x := (1 : Int32)) (y := (0 : Int32)) (by decide)).1) rfl ?_
        refine Go.iload (pc' := 230) C X327 at_228 rfl rfl ?_
        refine Go.ifNo (pc' := 233) C X327 at_230 ((if0 _ _).trans (feq (x := (1 : Int32)) (y := (0 : Int32)) (by decide)).1) rfl ?_
        refine Go.iconst (z := (1 : Int32)) (pc' := 234) C X327 at_233 rfl rfl ?_
        refine Go.goto (pc' := 238) C X327 at_234 (by decide) (by decide) ?_
        have K338 : Keep h0 T325.heap [] := ((((((((((Keep.refl h0 []).ext E277).trans K278 (allS (Or.inr z_b277) all0)).ext E280).trans K282 (allS (Or.inr z_b280) all0)).trans K291 (allS (Or.inr z_b280) all0)).trans K300 (allS (Or.inr z_vi_282) (allS (Or.inr z_vp_282) all0))).trans K304 (allS (Or.inr z_vi_282) (allS (Or.inr z_vp_282) all0))).trans K317 (allS (Or.inr z_b280) all0)).trans K325 (allS (Or.inr z_vi_282) (allS (Or.inr z_vp_282) all0)))
        exact Go.retN C X327 rfl at_238 (by simp) (by rw [e327]; exact ⟨rfl, N327, K338⟩) (by decide) (by decide)
  · by_cases htw : t = w
    · refine Go.iload (pc' := 37) C X0 at_35 rfl rfl ?_
      refine Go.iconst (z := (1 : Int32)) (pc' := 38) C X0 at_37 rfl rfl ?_
      refine Go.iand (pc' := 39) C X0 at_38 rfl ?_
      by_cases hc39_339 : (p5 &&& (1 : Int32)) = (0 : Int32)
      · refine Go.ifYes (pc' := 46) C X0 at_39 ((if0 _ _).trans (teq (x := (p5 &&& (1 : Int32))) (y := (0 : Int32)) hc39_339).1) (by decide) (by decide) ?_
        refine Go.iconst (z := (0 : Int32)) (pc' := 47) C X0 at_46 rfl rfl ?_
        refine Go.istore (Ls' := #[.val (.int p1), .val (.int p2), .val (.int p3), .val (.int p4), .val (.int p5), .val (.int cnt), .val (.int t), .val (.int u), .val (.int w), .val (.int (0 : Int32)), .unset, .unset, .unset, .unset, .unset, .unset]) (pc' := 49) C X0 at_47 rfl rfl ?_
        refine Go.newO (pc' := 52) C X0 (hw _ (List.mem_of_getElem? (i := 1) rfl)) (hw _ (List.mem_of_getElem? (i := 2) rfl)) (hw _ (List.mem_of_getElem? (i := 3) rfl)) e0 (by decide) (by decide) at_49 rfl ?_
        intro T340 h340 b340 X340 e340 g340 E340 A340 D340
        have n_b340 : Z.heap.size ≤ b340 := Nat.le_trans O0.1 (Nat.le_of_eq g340.symm)
        have z_b340 : h0.size ≤ b340 := Nat.le_trans (Nat.le_refl _) (Nat.le_of_eq g340.symm)
        have F340_members : Fld Z h340 b340 "com/example/opacheck/opacheck/PrecedenceTraversal$Neighbours" "members" "[I" .null := D340 (Or.inl (hw _ (List.mem_of_getElem? (i := 12) rfl))) (ty := (.array .int)) (by decide)
        have F340_ranges : Fld Z h340 b340 "com/example/opacheck/opacheck/PrecedenceTraversal$Neighbours" "ranges" "[I" .null := D340 (Or.inl (hw _ (List.mem_of_getElem? (i := 14) rfl))) (ty := (.array .int)) (by decide)
        have F340_count : Fld Z h340 b340 "com/example/opacheck/opacheck/PrecedenceTraversal$Neighbours" "count" "I" (.int (0 : Int32)) := D340 (Or.inr (hw _ (List.mem_of_getElem? (i := 16) rfl))) (ty := .int) (by decide)
        have F340_size : Fld Z h340 b340 "com/example/opacheck/opacheck/PrecedenceTraversal$Neighbours" "size" "I" (.int (0 : Int32)) := D340 (Or.inl (hw _ (List.mem_of_getElem? (i := 27) rfl))) (ty := .int) (by decide)
        have F340_rangesSize : Fld Z h340 b340 "com/example/opacheck/opacheck/PrecedenceTraversal$Neighbours" "rangesSize" "I" (.int (0 : Int32)) := D340 (Or.inl (hw _ (List.mem_of_getElem? (i := 43) rfl))) (ty := .int) (by decide)
        refine Go.dup (pc' := 53) C X340 at_52 rfl rfl ?_
        refine Go.iload (pc' := 55) C X340 at_53 rfl rfl ?_
        have O342 : Ext Z.heap h340 := (Ext.trans O0 E340)
        refine Go.callI (y := (⟨"com/example/opacheck/opacheck/PrecedenceTraversal$Neighbours", "<init>", "(I)V"⟩ : MethodName)) (a := b340) (pc' := 58) C X340 rfl (hw _ (List.mem_of_getElem? (i := 4) rfl)) (hw _ (List.mem_of_getElem? (i := 5) rfl)) (by decide) (rm_nb l Z a0 hw b340 cnt h340 O342 A340 F340_members F340_ranges F340_count F340_size F340_rangesSize n_b340) (hw _ (List.mem_of_getElem? (i := 6) rfl)) (hw _ (List.mem_of_getElem? (i := 3) rfl)) e340 (argsL := [(.int cnt)]) (rest := [(.ref b340)]) (W := 1) rfl rfl pd_2 rfl (Nat.le_of_eq rfl) rfl (by decide) (by decide) (by decide) (by decide) rfl at_55 rfl ?_
        intro T341 v341 L341 X341 q341
        obtain ⟨v_341, k_341, rfl, N341q, K341, B341_0, P341_0, P341_1, P341_2, P341_3, P341_4⟩ := q341
        have N341 := Fr.app N0 N341q
        have n_v_341 : Z.heap.size ≤ v_341 := Nat.le_trans O342.1 B341_0
        have z_v_341 : h0.size ≤ v_341 := Nat.le_trans (Nat.le_trans (Nat.le_refl _) E340.1) B341_0
        refine Go.astore (Ls' := #[.val (.int p1), .val (.int p2), .val (.int p3), .val (.int p4), .val (.int p5), .val (.int cnt), .val (.int t), .val (.int u), .val (.int w), .val (.int (0 : Int32)), .val (.ref b340), .unset, .unset, .unset, .unset, .unset]) (pc' := 60) C X341 at_58 rfl rfl rfl ?_
        have O344 : Ext Z.heap T341.heap := (Ext.keep O342 K341 (allS n_b340 all0))
        refine Go.newO (pc' := 63) C X341 (hw _ (List.mem_of_getElem? (i := 17) rfl)) (hw _ (List.mem_of_getElem? (i := 18) rfl)) (hw _ (List.mem_of_getElem? (i := 19) rfl)) rfl (by decide) (by decide) at_60 rfl ?_
        intro T343 h343 b343 X343 e343 g343 E343 A343 D343
        have n_b343 : Z.heap.size ≤ b343 := Nat.le_trans O344.1 (Nat.le_of_eq g343.symm)
        have z_b343 : h0.size ≤ b343 := Nat.le_trans (Nat.le_trans (Nat.le_trans (Nat.le_refl _) E340.1) K341.1) (Nat.le_of_eq g343.symm)
        have F343_members : Fld Z h343 b343 "com/example/opacheck/opacheck/PrecedenceTraversal" "members" "[I" .null := D343 (Or.inr (hw _ (List.mem_of_getElem? (i := 41) rfl))) (ty := (.array .int)) (by decide)
        have F343_ranges : Fld Z h343 b343 "com/example/opacheck/opacheck/PrecedenceTraversal" "ranges" "[[I" .null := D343 (Or.inr (hw _ (List.mem_of_getElem? (i := 47) rfl))) (ty := (.array (.array .int))) (by decide)
        have F343_visitedIn : Fld Z h343 b343 "com/example/opacheck/opacheck/PrecedenceTraversal" "visitedIn" "[I" .null := D343 (Or.inr (hw _ (List.mem_of_getElem? (i := 50) rfl))) (ty := (.array .int)) (by decide)
        have F343_positions : Fld Z h343 b343 "com/example/opacheck/opacheck/PrecedenceTraversal" "positions" "[I" .null := D343 (Or.inr (hw _ (List.mem_of_getElem? (i := 52) rfl))) (ty := (.array .int)) (by decide)
        have F343_links : Fld Z h343 b343 "com/example/opacheck/opacheck/PrecedenceTraversal" "links" "[I" .null := D343 (Or.inr (hw _ (List.mem_of_getElem? (i := 54) rfl))) (ty := (.array .int)) (by decide)
        have F343_linkedIn : Fld Z h343 b343 "com/example/opacheck/opacheck/PrecedenceTraversal" "linkedIn" "[I" .null := D343 (Or.inr (hw _ (List.mem_of_getElem? (i := 56) rfl))) (ty := (.array .int)) (by decide)
        have F343_path : Fld Z h343 b343 "com/example/opacheck/opacheck/PrecedenceTraversal" "path" "[I" .null := D343 (Or.inr (hw _ (List.mem_of_getElem? (i := 58) rfl))) (ty := (.array .int)) (by decide)
        have F343_number : Fld Z h343 b343 "com/example/opacheck/opacheck/PrecedenceTraversal" "number" "I" (.int (0 : Int32)) := D343 (Or.inl (hw _ (List.mem_of_getElem? (i := 65) rfl))) (ty := .int) (by decide)
        have F343_scope : Fld Z h343 b343 "com/example/opacheck/opacheck/PrecedenceTraversal" "scope" "Ljava/util/function/IntPredicate;" .null := D343 (Or.inl (hw _ (List.mem_of_getElem? (i := 67) rfl))) (ty := (.object "java/util/function/IntPredicate")) (by decide)
        refine Go.dup (pc' := 64) C X343 at_63 rfl rfl ?_
        refine Go.aload (pc' := 66) C X343 at_64 rfl rfl rfl ?_
        have c346 : Fld Z h343 b340 "com/example/opacheck/opacheck/PrecedenceTraversal$Neighbours" "members" "[I" (.ref v_341) := (Fld.ext E343 P341_0)
        have c347 : AL Z h343 v_341 k_341 .int [(.int (0 : Int32)), (.int (0 : Int32)), (.int (0 : Int32)), (.int (0 : Int32)), (.int (0 : Int32)), (.int (0 : Int32)), (.int (0 : Int32)), (.int (0 : Int32)), (.int (0 : Int32)), (.int (0 : Int32)), (.int (0 : Int32)), (.int (0 : Int32)), (.int (0 : Int32)), (.int (0 : Int32)), (.int (0 : Int32)), (.int (0 : Int32))] := (AL.ext E343 P341_1)
        have c348 : Fld Z h343 b340 "com/example/opacheck/opacheck/PrecedenceTraversal$Neighbours" "size" "I" (.int (0 : Int32)) := (Fld.ext E343 P341_3)
        have c349 : Fld Z h343 b340 "com/example/opacheck/opacheck/PrecedenceTraversal$Neighbours" "rangesSize" "I" (.int (0 : Int32)) := (Fld.ext E343 P341_4)
        have c350 : Fld Z h343 b340 "com/example/opacheck/opacheck/PrecedenceTraversal$Neighbours" "count" "I" (.int cnt) := (Fld.ext E343 P341_2)
        have ne351 : b343 ≠ b340 := (Nat.ne_of_gt (Nat.lt_of_lt_of_le A340.lt (Nat.le_trans (Nat.le_trans (Nat.le_refl _) K341.1) (Nat.le_of_eq g343.symm))))
        have ne352 : b343 ≠ v_341 := (Nat.ne_of_gt (Nat.lt_of_lt_of_le P341_1.lt (Nat.le_trans (Nat.le_refl _) (Nat.le_of_eq g343.symm))))
        have O353 : Ext Z.heap h343 := (Ext.trans O344 E343)
        refine Go.callI (y := (⟨"com/example/opacheck/opacheck/PrecedenceTraversal", "<init>", "(Lcom/example/opacheck/opacheck/PrecedenceTraversal$Neighbours;)V"⟩ : MethodName)) (a := b343) (pc' := 69) C X343 rfl (hw _ (List.mem_of_getElem? (i := 20) rfl)) (hw _ (List.mem_of_getElem? (i := 21) rfl)) (by decide) (rm_ctg l Z a0 hw b343 b340 v_341 k_341 cnt h343 O353 A343 F343_members F343_ranges F343_visitedIn F343_positions F343_links F343_linkedIn F343_path F343_number F343_scope c346 c347 c348 c349 c350 n_b343 ne351 ne352 hcnt) (hw _ (List.mem_of_getElem? (i := 22) rfl)) (hw _ (List.mem_of_getElem? (i := 19) rfl)) e343 (argsL := [(.ref b340)]) (rest := [(.ref b343)]) (W := 1) rfl rfl pd_3 rfl (Nat.le_of_eq rfl) rfl (by decide) (by decide) (by decide) (by decide) rfl at_66 rfl ?_
        intro T345 v345 L345 X345 q345
        obtain ⟨vi_345, ki_345, vp_345, kp_345, rfl, N345q, K345, B345_0, B345_1, P345_0, P345_1, P345_2, P345_3, P345_4, P345_5, p345_0⟩ := q345
        have N345 := Fr.app N341 N345q
        have n_vi_345 : Z.heap.size ≤ vi_345 := Nat.le_trans O353.1 B345_0
        have z_vi_345 : h0.size ≤ vi_345 := Nat.le_trans (Nat.le_trans (Nat.le_trans (Nat.le_trans (Nat.le_refl _) E340.1) K341.1) E343.1) B345_0
        have n_vp_345 : Z.heap.size ≤ vp_345 := Nat.le_trans O353.1 B345_1
        have z_vp_345 : h0.size ≤ vp_345 := Nat.le_trans (Nat.le_trans (Nat.le_trans (Nat.le_trans (Nat.le_refl _) E340.1) K341.1) E343.1) B345_1
        refine Go.astore (Ls' := #[.val (.int p1), .val (.int p2), .val (.int p3), .val (.int p4), .val (.int p5), .val (.int cnt), .val (.int t), .val (.int u), .val (.int w), .val (.int (0 : Int32)), .val (.ref b340), .val (.ref b343), .unset, .unset, .unset, .unset]) (pc' := 71) C X345 at_69 rfl rfl rfl ?_
        refine Go.aload (pc' := 73) C X345 at_71 rfl rfl rfl ?_
        refine Go.aconstNull (pc' := 74) C X345 at_73 rfl ?_
        have c355 : Exa Z T345.heap b343 "com/example/opacheck/opacheck/PrecedenceTraversal" := (Exa.keep A343 K345)
        have O356 : Ext Z.heap T345.heap := (Ext.keep O353 K345 (allS n_b343 all0))
        refine Go.callV (y := (⟨"com/example/opacheck/opacheck/PrecedenceTraversal", "restart", "(Ljava/util/function/IntPredicate;)V"⟩ : MethodName)) (z := (⟨"com/example/opacheck/opacheck/PrecedenceTraversal", "restart", "(Ljava/util/function/IntPredicate;)V"⟩ : MethodName)) (a := b343) (pc' := 77) C X345 (hw _ (List.mem_of_getElem? (i := 59) rfl)) (hw _ (List.mem_of_getElem? (i := 60) rfl)) (notFace_at C.2.1 (hw _ (List.mem_of_getElem? (i := 62) rfl))) (hw _ (List.mem_of_getElem? (i := 62) rfl)) (hw _ (List.mem_of_getElem? (i := 61) rfl)) c355 (by decide) (rm_rst l Z a0 hw b343 ((0 : Int32)) vi_345 vp_345 T345.heap O356 c355 P345_4 P345_5 P345_0 P345_2 n_b343) (hw _ (List.mem_of_getElem? (i := 63) rfl)) (hw _ (List.mem_of_getElem? (i := 19) rfl)) rfl (argsL := [.null]) (rest := []) (W := 0) rfl rfl pd_4 rfl (Nat.le_of_eq rfl) rfl (by decide) (by decide) (by decide) (by decide) at_74 rfl ?_
        intro T354 v354 L354 X354 q354
        obtain ⟨rfl, N354q, K354, P354_0, P354_1, P354_2, P354_3⟩ := q354
        have N354 := Fr.app N345 N354q
        refine Go.aload (pc' := 79) C X354 at_77 rfl rfl rfl ?_
        refine Go.iload (pc' := 81) C X354 at_79 rfl rfl ?_
        have ne358 : vi_345 ≠ b343 := (Nat.ne_of_gt (Nat.lt_of_lt_of_le A343.lt (Nat.le_trans (Nat.le_refl _) B345_0)))
        have c359 : AL Z T354.heap vi_345 ki_345 .int (List.replicate cnt.toNatClampNeg (.int 0)) := (AL.keep P345_1 K354 (ninS ne358 nin0))
        have O360 : Ext Z.heap T354.heap := (Ext.keep O356 K354 (allS n_b343 all0))
        have c361 : Exa Z T354.heap b343 "com/example/opacheck/opacheck/PrecedenceTraversal" := (Exa.keep c355 K354)
        refine Go.callV (y := (⟨"com/example/opacheck/opacheck/PrecedenceTraversal", "visited", "(I)Z"⟩ : MethodName)) (z := (⟨"com/example/opacheck/opacheck/PrecedenceTraversal", "visited", "(I)Z"⟩ : MethodName)) (a := b343) (pc' := 84) C X354 (hw _ (List.mem_of_getElem? (i := 68) rfl)) (hw _ (List.mem_of_getElem? (i := 69) rfl)) (notFace_at C.2.1 (hw _ (List.mem_of_getElem? (i := 71) rfl))) (hw _ (List.mem_of_getElem? (i := 71) rfl)) (hw _ (List.mem_of_getElem? (i := 70) rfl)) c361 (by decide) (rm_vdF l Z a0 hw b343 t (((0 : Int32) + (1 : Int32))) vi_345 ki_345 ((List.replicate cnt.toNatClampNeg (.int 0))) ((0 : Int32)) T354.heap O360 P354_0 P354_2 c359 get (own_at _ _ ltt) (by decide)) (hw _ (List.mem_of_getElem? (i := 72) rfl)) (hw _ (List.mem_of_getElem? (i := 19) rfl)) rfl (argsL := [(.int t)]) (rest := []) (W := 0) rfl rfl pd_5 rfl (Nat.le_of_eq rfl) rfl (by decide) (by decide) (by decide) (by decide) at_81 rfl ?_
        intro T357 v357 L357 X357 q357
        obtain ⟨rfl, rfl, e357⟩ := q357
        have N357 := Fr.app N354 (Fr.nil _)
        refine Go.ifNo (pc' := 87) C X357 at_84 ((if0 _ _).trans (teq (x := (0 : Int32)) (y := (0 : Int32)) (by decide)).2) rfl ?_
        refine Go.iconst (z := (1 : Int32)) (pc' := 88) C X357 at_87 rfl rfl ?_
        refine Go.goto (pc' := 92) C X357 at_88 (by decide) (by decide) ?_
        refine Go.istore (Ls' := #[.val (.int p1), .val (.int p2), .val (.int p3), .val (.int p4), .val (.int p5), .val (.int cnt), .val (.int t), .val (.int u), .val (.int w), .val (.int (0 : Int32)), .val (.ref b340), .val (.ref b343), .val (.int (1 : Int32)), .unset, .unset, .unset]) (pc' := 94) C X357 at_92 rfl rfl ?_
        refine Go.aload (pc' := 96) C X357 at_94 rfl rfl rfl ?_
        refine Go.iload (pc' := 98) C X357 at_96 rfl rfl ?_
        have ne364 : vp_345 ≠ b343 := (Nat.ne_of_gt (Nat.lt_of_lt_of_le A343.lt (Nat.le_trans (Nat.le_refl _) B345_1)))
        have c365 : AL Z T354.heap vp_345 kp_345 .int (List.replicate cnt.toNatClampNeg (.int 0)) := (AL.keep P345_3 K354 (ninS ne364 nin0))
        refine Go.callV (y := (⟨"com/example/opacheck/opacheck/PrecedenceTraversal", "visit", "(I)V"⟩ : MethodName)) (z := (⟨"com/example/opacheck/opacheck/PrecedenceTraversal", "visit", "(I)V"⟩ : MethodName)) (a := b343) (pc' := 101) C X357 (hw _ (List.mem_of_getElem? (i := 73) rfl)) (hw _ (List.mem_of_getElem? (i := 74) rfl)) (notFace_at C.2.1 (hw _ (List.mem_of_getElem? (i := 76) rfl))) (hw _ (List.mem_of_getElem? (i := 76) rfl)) (hw _ (List.mem_of_getElem? (i := 75) rfl)) c361 (by decide) (rm_vis l Z a0 hw b343 u (((0 : Int32) + (1 : Int32))) vi_345 ki_345 ((List.replicate cnt.toNatClampNeg (.int 0))) vp_345 kp_345 ((List.replicate cnt.toNatClampNeg (.int 0))) cnt.toNatClampNeg T354.heap O360 P354_0 P354_2 c359 P354_3 c365 geu (by simp) (by simp) ltu n_vi_345 n_vp_345 p345_0 (Ne.symm ne358) (Ne.symm ne364)) (hw _ (List.mem_of_getElem? (i := 77) rfl)) (hw _ (List.mem_of_getElem? (i := 19) rfl)) e357 (argsL := [(.int u)]) (rest := []) (W := 0) rfl rfl pd_2 rfl (Nat.le_of_eq rfl) rfl (by decide) (by decide) (by decide) (by decide) at_98 rfl ?_
        intro T363 v363 L363 X363 q363
        obtain ⟨rfl, N363q, K363, P363_0, P363_1⟩ := q363
        have N363 := Fr.app N357 N363q
        refine Go.iload (pc' := 103) C X363 at_101 rfl rfl ?_
        refine Go.ifYes (pc' := 113) C X363 at_103 ((if0 _ _).trans (teq (x := (0 : Int32)) (y := (0 : Int32)) (by decide)).1) (by decide) (by decide) ?_
        refine Go.aload (pc' := 115) C X363 at_113 rfl rfl rfl ?_
        refine Go.iload (pc' := 117) C X363 at_115 rfl rfl ?_
        have c368 : Fld Z T363.heap b343 "com/example/opacheck/opacheck/PrecedenceTraversal" "number" "I" (.int ((0 : Int32) + (1 : Int32))) := (Fld.keep P354_0 K363 (ninS (Ne.symm ne358) (ninS (Ne.symm ne364) nin0)))
        have c369 : Fld Z T363.heap b343 "com/example/opacheck/opacheck/PrecedenceTraversal" "visitedIn" "[I" (.ref vi_345) := (Fld.keep P354_2 K363 (ninS (Ne.symm ne358) (ninS (Ne.symm ne364) nin0)))
        have O370 : Ext Z.heap T363.heap := (Ext.keep O360 K363 (allS n_vi_345 (allS n_vp_345 all0)))
        have c371 : Exa Z T363.heap b343 "com/example/opacheck/opacheck/PrecedenceTraversal" := (Exa.keep c361 K363)
        refine Go.callV (y := (⟨"com/example/opacheck/opacheck/PrecedenceTraversal", "visited", "(I)Z"⟩ : MethodName)) (z := (⟨"com/example/opacheck/opacheck/PrecedenceTraversal", "visited", "(I)Z"⟩ : MethodName)) (a := b343) (pc' := 120) C X363 (hw _ (List.mem_of_getElem? (i := 68) rfl)) (hw _ (List.mem_of_getElem? (i := 69) rfl)) (notFace_at C.2.1 (hw _ (List.mem_of_getElem? (i := 71) rfl))) (hw _ (List.mem_of_getElem? (i := 71) rfl)) (hw _ (List.mem_of_getElem? (i := 70) rfl)) c371 (by decide) (rm_vdF l Z a0 hw b343 t (((0 : Int32) + (1 : Int32))) vi_345 ki_345 (((List.replicate cnt.toNatClampNeg (.int 0)).set u.toNatClampNeg (.int ((0 : Int32) + (1 : Int32))))) ((0 : Int32)) T363.heap O370 c368 c369 P363_0 get (own_miss get geu htu (own_at _ _ ltt)) (by decide)) (hw _ (List.mem_of_getElem? (i := 72) rfl)) (hw _ (List.mem_of_getElem? (i := 19) rfl)) rfl (argsL := [(.int t)]) (rest := []) (W := 0) rfl rfl pd_5 rfl (Nat.le_of_eq rfl) rfl (by decide) (by decide) (by decide) (by decide) at_117 rfl ?_
        intro T367 v367 L367 X367 q367
        obtain ⟨rfl, rfl, e367⟩ := q367
        have N367 := Fr.app N363 (Fr.nil _)
        refine Go.iload (pc' := 122) C X367 at_120 rfl rfl ?_
        refine Go.iload (pc' := 124) C X367 at_122 rfl rfl ?_
        refine Go.icmpNo (pc' := 127) C X367 at_124 (feq (x := t) (y := u) htu).1 rfl ?_
        refine Go.iload (pc' := 129) C X367 at_127 rfl rfl ?_
        refine Go.ifYes (pc' := 143) C X367 at_129 ((if0 _ _).trans (teq (x := (0 : Int32)) (y := (0 : Int32)) (by decide)).1) (by decide) (by decide) ?_
        refine Go.iconst (z := (0 : Int32)) (pc' := 144) C X367 at_143 rfl rfl ?_
        refine Go.icmpNo (pc' := 147) C X367 at_144 (teq (x := (0 : Int32)) (y := (0 : Int32)) (by decide)).2 rfl ?_
        refine Go.iconst (z := (1 : Int32)) (pc' := 148) C X367 at_147 rfl rfl ?_
        refine Go.goto (pc' := 152) C X367 at_148 (by decide) (by decide) ?_
        refine Go.istore (Ls' := #[.val (.int p1), .val (.int p2), .val (.int p3), .val (.int p4), .val (.int p5), .val (.int cnt), .val (.int t), .val (.int u), .val (.int w), .val (.int (0 : Int32)), .val (.ref b340), .val (.ref b343), .val (.int (1 : Int32)), .val (.int (1 : Int32)), .unset, .unset]) (pc' := 154) C X367 at_152 rfl rfl ?_
        refine Go.aload (pc' := 156) C X367 at_154 rfl rfl rfl ?_
        refine Go.aconstNull (pc' := 157) C X367 at_156 rfl ?_
        have c376 : Fld Z T363.heap b343 "com/example/opacheck/opacheck/PrecedenceTraversal" "scope" "Ljava/util/function/IntPredicate;" .null := (Fld.keep P354_1 K363 (ninS (Ne.symm ne358) (ninS (Ne.symm ne364) nin0)))
        have c377 : Fld Z T363.heap b343 "com/example/opacheck/opacheck/PrecedenceTraversal" "positions" "[I" (.ref vp_345) := (Fld.keep P354_3 K363 (ninS (Ne.symm ne358) (ninS (Ne.symm ne364) nin0)))
        refine Go.callV (y := (⟨"com/example/opacheck/opacheck/PrecedenceTraversal", "restart", "(Ljava/util/function/IntPredicate;)V"⟩ : MethodName)) (z := (⟨"com/example/opacheck/opacheck/PrecedenceTraversal", "restart", "(Ljava/util/function/IntPredicate;)V"⟩ : MethodName)) (a := b343) (pc' := 160) C X367 (hw _ (List.mem_of_getElem? (i := 59) rfl)) (hw _ (List.mem_of_getElem? (i := 60) rfl)) (notFace_at C.2.1 (hw _ (List.mem_of_getElem? (i := 62) rfl))) (hw _ (List.mem_of_getElem? (i := 62) rfl)) (hw _ (List.mem_of_getElem? (i := 61) rfl)) c371 (by decide) (rm_rst l Z a0 hw b343 (((0 : Int32) + (1 : Int32))) vi_345 vp_345 T363.heap O370 c371 c368 c376 c369 c377 n_b343) (hw _ (List.mem_of_getElem? (i := 63) rfl)) (hw _ (List.mem_of_getElem? (i := 19) rfl)) e367 (argsL := [.null]) (rest := []) (W := 0) rfl rfl pd_4 rfl (Nat.le_of_eq rfl) rfl (by decide) (by decide) (by decide) (by decide) at_157 rfl ?_
        intro T375 v375 L375 X375 q375
        obtain ⟨rfl, N375q, K375, P375_0, P375_1, P375_2, P375_3⟩ := q375
        have N375 := Fr.app N367 N375q
        refine Go.aload (pc' := 162) C X375 at_160 rfl rfl rfl ?_
        refine Go.iload (pc' := 164) C X375 at_162 rfl rfl ?_
        have c379 : AL Z T375.heap vi_345 ki_345 .int ((List.replicate cnt.toNatClampNeg (.int 0)).set u.toNatClampNeg (.int ((0 : Int32) + (1 : Int32)))) := (AL.keep P363_0 K375 (ninS ne358 nin0))
        have O380 : Ext Z.heap T375.heap := (Ext.keep O370 K375 (allS n_b343 all0))
        have c381 : Exa Z T375.heap b343 "com/example/opacheck/opacheck/PrecedenceTraversal" := (Exa.keep c371 K375)
        refine Go.callV (y := (⟨"com/example/opacheck/opacheck/PrecedenceTraversal", "visited", "(I)Z"⟩ : MethodName)) (z := (⟨"com/example/opacheck/opacheck/PrecedenceTraversal", "visited", "(I)Z"⟩ : MethodName)) (a := b343) (pc' := 167) C X375 (hw _ (List.mem_of_getElem? (i := 68) rfl)) (hw _ (List.mem_of_getElem? (i := 69) rfl)) (notFace_at C.2.1 (hw _ (List.mem_of_getElem? (i := 71) rfl))) (hw _ (List.mem_of_getElem? (i := 71) rfl)) (hw _ (List.mem_of_getElem? (i := 70) rfl)) c381 (by decide) (rm_vdF l Z a0 hw b343 t ((((0 : Int32) + (1 : Int32)) + (1 : Int32))) vi_345 ki_345 (((List.replicate cnt.toNatClampNeg (.int 0)).set u.toNatClampNeg (.int ((0 : Int32) + (1 : Int32))))) ((0 : Int32)) T375.heap O380 P375_0 P375_2 c379 get (own_miss get geu htu (own_at _ _ ltt)) (by decide)) (hw _ (List.mem_of_getElem? (i := 72) rfl)) (hw _ (List.mem_of_getElem? (i := 19) rfl)) rfl (argsL := [(.int t)]) (rest := []) (W := 0) rfl rfl pd_5 rfl (Nat.le_of_eq rfl) rfl (by decide) (by decide) (by decide) (by decide) at_164 rfl ?_
        intro T378 v378 L378 X378 q378
        obtain ⟨rfl, rfl, e378⟩ := q378
        have N378 := Fr.app N375 (Fr.nil _)
        refine Go.ifNo (pc' := 170) C X378 at_167 ((if0 _ _).trans (teq (x := (0 : Int32)) (y := (0 : Int32)) (by decide)).2) rfl ?_
        refine Go.iconst (z := (1 : Int32)) (pc' := 171) C X378 at_170 rfl rfl ?_
        refine Go.goto (pc' := 175) C X378 at_171 (by decide) (by decide) ?_
        refine Go.istore (Ls' := #[.val (.int p1), .val (.int p2), .val (.int p3), .val (.int p4), .val (.int p5), .val (.int cnt), .val (.int t), .val (.int u), .val (.int w), .val (.int (0 : Int32)), .val (.ref b340), .val (.ref b343), .val (.int (1 : Int32)), .val (.int (1 : Int32)), .val (.int (1 : Int32)), .unset]) (pc' := 177) C X378 at_175 rfl rfl ?_
        refine Go.aload (pc' := 179) C X378 at_177 rfl rfl rfl ?_
        refine Go.iload (pc' := 181) C X378 at_179 rfl rfl ?_
        have c384 : AL Z T375.heap vp_345 kp_345 .int ((List.replicate cnt.toNatClampNeg (.int 0)).set u.toNatClampNeg (.int (0 : Int32))) := (AL.keep P363_1 K375 (ninS ne364 nin0))
        refine Go.callV (y := (⟨"com/example/opacheck/opacheck/PrecedenceTraversal", "visit", "(I)V"⟩ : MethodName)) (z := (⟨"com/example/opacheck/opacheck/PrecedenceTraversal", "visit", "(I)V"⟩ : MethodName)) (a := b343) (pc' := 184) C X378 (hw _ (List.mem_of_getElem? (i := 73) rfl)) (hw _ (List.mem_of_getElem? (i := 74) rfl)) (notFace_at C.2.1 (hw _ (List.mem_of_getElem? (i := 76) rfl))) (hw _ (List.mem_of_getElem? (i := 76) rfl)) (hw _ (List.mem_of_getElem? (i := 75) rfl)) c381 (by decide) (rm_vis l Z a0 hw b343 w ((((0 : Int32) + (1 : Int32)) + (1 : Int32))) vi_345 ki_345 (((List.replicate cnt.toNatClampNeg (.int 0)).set u.toNatClampNeg (.int ((0 : Int32) + (1 : Int32))))) vp_345 kp_345 (((List.replicate cnt.toNatClampNeg (.int 0)).set u.toNatClampNeg (.int (0 : Int32)))) cnt.toNatClampNeg T375.heap O380 P375_0 P375_2 c379 P375_3 c384 gew (by simp) (by simp) ltw n_vi_345 n_vp_345 p345_0 (Ne.symm ne358) (Ne.symm ne364)) (hw _ (List.mem_of_getElem? (i := 77) rfl)) (hw _ (List.mem_of_getElem? (i := 19) rfl)) e378 (argsL := [(.int w)]) (rest := []) (W := 0) rfl rfl pd_2 rfl (Nat.le_of_eq rfl) rfl (by decide) (by decide) (by decide) (by decide) at_181 rfl ?_
        intro T383 v383 L383 X383 q383
        obtain ⟨rfl, N383q, K383, P383_0, P383_1⟩ := q383
        have N383 := Fr.app N378 N383q
        refine Go.aload (pc' := 186) C X383 at_184 rfl rfl rfl ?_
        refine Go.iload (pc' := 188) C X383 at_186 rfl rfl ?_
        have c386 : Fld Z T383.heap b343 "com/example/opacheck/opacheck/PrecedenceTraversal" "number" "I" (.int (((0 : Int32) + (1 : Int32)) + (1 : Int32))) := (Fld.keep P375_0 K383 (ninS (Ne.symm ne358) (ninS (Ne.symm ne364) nin0)))
        have c387 : Fld Z T383.heap b343 "com/example/opacheck/opacheck/PrecedenceTraversal" "visitedIn" "[I" (.ref vi_345) := (Fld.keep P375_2 K383 (ninS (Ne.symm ne358) (ninS (Ne.symm ne364) nin0)))
        have O388 : Ext Z.heap T383.heap := (Ext.keep O380 K383 (allS n_vi_345 (allS n_vp_345 all0)))
        have c389 : Exa Z T383.heap b343 "com/example/opacheck/opacheck/PrecedenceTraversal" := (Exa.keep c381 K383)
        refine Go.callV (y := (⟨"com/example/opacheck/opacheck/PrecedenceTraversal", "visited", "(I)Z"⟩ : MethodName)) (z := (⟨"com/example/opacheck/opacheck/PrecedenceTraversal", "visited", "(I)Z"⟩ : MethodName)) (a := b343) (pc' := 191) C X383 (hw _ (List.mem_of_getElem? (i := 68) rfl)) (hw _ (List.mem_of_getElem? (i := 69) rfl)) (notFace_at C.2.1 (hw _ (List.mem_of_getElem? (i := 71) rfl))) (hw _ (List.mem_of_getElem? (i := 71) rfl)) (hw _ (List.mem_of_getElem? (i := 70) rfl)) c389 (by decide) (rm_vdT l Z a0 hw b343 t ((((0 : Int32) + (1 : Int32)) + (1 : Int32))) vi_345 ki_345 ((((List.replicate cnt.toNatClampNeg (.int 0)).set u.toNatClampNeg (.int ((0 : Int32) + (1 : Int32)))).set w.toNatClampNeg (.int (((0 : Int32) + (1 : Int32)) + (1 : Int32))))) ((((0 : Int32) + (1 : Int32)) + (1 : Int32))) T383.heap O388 c386 c387 P383_0 get (own_hit htw (by simpa using ltt)) rfl) (hw _ (List.mem_of_getElem? (i := 72) rfl)) (hw _ (List.mem_of_getElem? (i := 19) rfl)) rfl (argsL := [(.int t)]) (rest := []) (W := 0) rfl rfl pd_5 rfl (Nat.le_of_eq rfl) rfl (by decide) (by decide) (by decide) (by decide) at_188 rfl ?_
        intro T385 v385 L385 X385 q385
        obtain ⟨rfl, rfl, e385⟩ := q385
        have N385 := Fr.app N383 (Fr.nil _)
        refine Go.iload (pc' := 193) C X385 at_191 rfl rfl ?_
        refine Go.iload (pc' := 195) C X385 at_193 rfl rfl ?_
        refine Go.icmpNo (pc' := 198) C X385 at_195 (teq (x := t) (y := w) htw).2 rfl ?_
        refine Go.iconst (z := (1 : Int32)) (pc' := 199) C X385 at_198 rfl rfl ?_
        refine Go.goto (pc' := 203) C X385 at_199 (by decide) (by decide) ?_
        refine Go.icmpNo (pc' := 206) C X385 at_203 (teq (x := (1 : Int32)) (y := (1 : Int32)) (by decide)).2 rfl ?_
        refine Go.iconst (z := (1 : Int32)) (pc' := 207) C X385 at_206 rfl rfl ?_
        refine Go.goto (pc' := 211) C X385 at_207 (by decide) (by decide) ?_
        refine Go.istore (Ls' := #[.val (.int p1), .val (.int p2), .val (.int p3), .val (.int p4), .val (.int p5), .val (.int cnt), .val (.int t), .val (.int u), .val (.int w), .val (.int (0 : Int32)), .val (.ref b340), .val (.ref b343), .val (.int (1 : Int32)), .val (.int (1 : Int32)), .val (.int (1 : Int32)), .val (.int (1 : Int32))]) (pc' := 213) C X385 at_211 rfl rfl ?_
        refine Go.iload (pc' := 215) C X385 at_213 rfl rfl ?_
        refine Go.ifNo (pc' := 218) C X385 at_215 ((if0 _ _).trans (feq (x := (1 : Int32)) (y := (0 : Int32)) (by decide)).1) rfl ?_
        refine Go.iload (pc' := 220) C X385 at_218 rfl rfl ?_
        refine Go.ifNo (pc' := 223) C X385 at_220 ((if0 _ _).trans (feq (x := (1 : Int32)) (y := (0 : Int32)) (by decide)).1) rfl ?_
        refine Go.iload (pc' := 225) C X385 at_223 rfl rfl ?_
        refine Go.ifNo (pc' := 228) C X385 at_225 ((if0 _ _).trans (feq (x := (1 : Int32)) (y := (0 : Int32)) (by decide)).1) rfl ?_
        refine Go.iload (pc' := 230) C X385 at_228 rfl rfl ?_
        refine Go.ifNo (pc' := 233) C X385 at_230 ((if0 _ _).trans (feq (x := (1 : Int32)) (y := (0 : Int32)) (by decide)).1) rfl ?_
        refine Go.iconst (z := (1 : Int32)) (pc' := 234) C X385 at_233 rfl rfl ?_
        refine Go.goto (pc' := 238) C X385 at_234 (by decide) (by decide) ?_
        have K396 : Keep h0 T383.heap [] := (((((((((Keep.refl h0 []).ext E340).trans K341 (allS (Or.inr z_b340) all0)).ext E343).trans K345 (allS (Or.inr z_b343) all0)).trans K354 (allS (Or.inr z_b343) all0)).trans K363 (allS (Or.inr z_vi_345) (allS (Or.inr z_vp_345) all0))).trans K375 (allS (Or.inr z_b343) all0)).trans K383 (allS (Or.inr z_vi_345) (allS (Or.inr z_vp_345) all0)))
        exact Go.retN C X385 rfl at_238 (by simp) (by rw [e385]; exact ⟨rfl, N385, K396⟩) (by decide) (by decide)
      · refine Go.ifNo (pc' := 42) C X0 at_39 ((if0 _ _).trans (feq (x := (p5 &&& (1 : Int32))) (y := (0 : Int32)) hc39_339).1) rfl ?_
        refine Go.iconst (z := (1 : Int32)) (pc' := 43) C X0 at_42 rfl rfl ?_
        refine Go.goto (pc' := 47) C X0 at_43 (by decide) (by decide) ?_
        refine Go.istore (Ls' := #[.val (.int p1), .val (.int p2), .val (.int p3), .val (.int p4), .val (.int p5), .val (.int cnt), .val (.int t), .val (.int u), .val (.int w), .val (.int (1 : Int32)), .unset, .unset, .unset, .unset, .unset, .unset]) (pc' := 49) C X0 at_47 rfl rfl ?_
        refine Go.newO (pc' := 52) C X0 (hw _ (List.mem_of_getElem? (i := 1) rfl)) (hw _ (List.mem_of_getElem? (i := 2) rfl)) (hw _ (List.mem_of_getElem? (i := 3) rfl)) e0 (by decide) (by decide) at_49 rfl ?_
        intro T397 h397 b397 X397 e397 g397 E397 A397 D397
        have n_b397 : Z.heap.size ≤ b397 := Nat.le_trans O0.1 (Nat.le_of_eq g397.symm)
        have z_b397 : h0.size ≤ b397 := Nat.le_trans (Nat.le_refl _) (Nat.le_of_eq g397.symm)
        have F397_members : Fld Z h397 b397 "com/example/opacheck/opacheck/PrecedenceTraversal$Neighbours" "members" "[I" .null := D397 (Or.inl (hw _ (List.mem_of_getElem? (i := 12) rfl))) (ty := (.array .int)) (by decide)
        have F397_ranges : Fld Z h397 b397 "com/example/opacheck/opacheck/PrecedenceTraversal$Neighbours" "ranges" "[I" .null := D397 (Or.inl (hw _ (List.mem_of_getElem? (i := 14) rfl))) (ty := (.array .int)) (by decide)
        have F397_count : Fld Z h397 b397 "com/example/opacheck/opacheck/PrecedenceTraversal$Neighbours" "count" "I" (.int (0 : Int32)) := D397 (Or.inr (hw _ (List.mem_of_getElem? (i := 16) rfl))) (ty := .int) (by decide)
        have F397_size : Fld Z h397 b397 "com/example/opacheck/opacheck/PrecedenceTraversal$Neighbours" "size" "I" (.int (0 : Int32)) := D397 (Or.inl (hw _ (List.mem_of_getElem? (i := 27) rfl))) (ty := .int) (by decide)
        have F397_rangesSize : Fld Z h397 b397 "com/example/opacheck/opacheck/PrecedenceTraversal$Neighbours" "rangesSize" "I" (.int (0 : Int32)) := D397 (Or.inl (hw _ (List.mem_of_getElem? (i := 43) rfl))) (ty := .int) (by decide)
        refine Go.dup (pc' := 53) C X397 at_52 rfl rfl ?_
        refine Go.iload (pc' := 55) C X397 at_53 rfl rfl ?_
        have O399 : Ext Z.heap h397 := (Ext.trans O0 E397)
        refine Go.callI (y := (⟨"com/example/opacheck/opacheck/PrecedenceTraversal$Neighbours", "<init>", "(I)V"⟩ : MethodName)) (a := b397) (pc' := 58) C X397 rfl (hw _ (List.mem_of_getElem? (i := 4) rfl)) (hw _ (List.mem_of_getElem? (i := 5) rfl)) (by decide) (rm_nb l Z a0 hw b397 cnt h397 O399 A397 F397_members F397_ranges F397_count F397_size F397_rangesSize n_b397) (hw _ (List.mem_of_getElem? (i := 6) rfl)) (hw _ (List.mem_of_getElem? (i := 3) rfl)) e397 (argsL := [(.int cnt)]) (rest := [(.ref b397)]) (W := 1) rfl rfl pd_2 rfl (Nat.le_of_eq rfl) rfl (by decide) (by decide) (by decide) (by decide) rfl at_55 rfl ?_
        intro T398 v398 L398 X398 q398
        obtain ⟨v_398, k_398, rfl, N398q, K398, B398_0, P398_0, P398_1, P398_2, P398_3, P398_4⟩ := q398
        have N398 := Fr.app N0 N398q
        have n_v_398 : Z.heap.size ≤ v_398 := Nat.le_trans O399.1 B398_0
        have z_v_398 : h0.size ≤ v_398 := Nat.le_trans (Nat.le_trans (Nat.le_refl _) E397.1) B398_0
        refine Go.astore (Ls' := #[.val (.int p1), .val (.int p2), .val (.int p3), .val (.int p4), .val (.int p5), .val (.int cnt), .val (.int t), .val (.int u), .val (.int w), .val (.int (1 : Int32)), .val (.ref b397), .unset, .unset, .unset, .unset, .unset]) (pc' := 60) C X398 at_58 rfl rfl rfl ?_
        have O401 : Ext Z.heap T398.heap := (Ext.keep O399 K398 (allS n_b397 all0))
        refine Go.newO (pc' := 63) C X398 (hw _ (List.mem_of_getElem? (i := 17) rfl)) (hw _ (List.mem_of_getElem? (i := 18) rfl)) (hw _ (List.mem_of_getElem? (i := 19) rfl)) rfl (by decide) (by decide) at_60 rfl ?_
        intro T400 h400 b400 X400 e400 g400 E400 A400 D400
        have n_b400 : Z.heap.size ≤ b400 := Nat.le_trans O401.1 (Nat.le_of_eq g400.symm)
        have z_b400 : h0.size ≤ b400 := Nat.le_trans (Nat.le_trans (Nat.le_trans (Nat.le_refl _) E397.1) K398.1) (Nat.le_of_eq g400.symm)
        have F400_members : Fld Z h400 b400 "com/example/opacheck/opacheck/PrecedenceTraversal" "members" "[I" .null := D400 (Or.inr (hw _ (List.mem_of_getElem? (i := 41) rfl))) (ty := (.array .int)) (by decide)
        have F400_ranges : Fld Z h400 b400 "com/example/opacheck/opacheck/PrecedenceTraversal" "ranges" "[[I" .null := D400 (Or.inr (hw _ (List.mem_of_getElem? (i := 47) rfl))) (ty := (.array (.array .int))) (by decide)
        have F400_visitedIn : Fld Z h400 b400 "com/example/opacheck/opacheck/PrecedenceTraversal" "visitedIn" "[I" .null := D400 (Or.inr (hw _ (List.mem_of_getElem? (i := 50) rfl))) (ty := (.array .int)) (by decide)
        have F400_positions : Fld Z h400 b400 "com/example/opacheck/opacheck/PrecedenceTraversal" "positions" "[I" .null := D400 (Or.inr (hw _ (List.mem_of_getElem? (i := 52) rfl))) (ty := (.array .int)) (by decide)
        have F400_links : Fld Z h400 b400 "com/example/opacheck/opacheck/PrecedenceTraversal" "links" "[I" .null := D400 (Or.inr (hw _ (List.mem_of_getElem? (i := 54) rfl))) (ty := (.array .int)) (by decide)
        have F400_linkedIn : Fld Z h400 b400 "com/example/opacheck/opacheck/PrecedenceTraversal" "linkedIn" "[I" .null := D400 (Or.inr (hw _ (List.mem_of_getElem? (i := 56) rfl))) (ty := (.array .int)) (by decide)
        have F400_path : Fld Z h400 b400 "com/example/opacheck/opacheck/PrecedenceTraversal" "path" "[I" .null := D400 (Or.inr (hw _ (List.mem_of_getElem? (i := 58) rfl))) (ty := (.array .int)) (by decide)
        have F400_number : Fld Z h400 b400 "com/example/opacheck/opacheck/PrecedenceTraversal" "number" "I" (.int (0 : Int32)) := D400 (Or.inl (hw _ (List.mem_of_getElem? (i := 65) rfl))) (ty := .int) (by decide)
        have F400_scope : Fld Z h400 b400 "com/example/opacheck/opacheck/PrecedenceTraversal" "scope" "Ljava/util/function/IntPredicate;" .null := D400 (Or.inl (hw _ (List.mem_of_getElem? (i := 67) rfl))) (ty := (.object "java/util/function/IntPredicate")) (by decide)
        refine Go.dup (pc' := 64) C X400 at_63 rfl rfl ?_
        refine Go.aload (pc' := 66) C X400 at_64 rfl rfl rfl ?_
        have c403 : Fld Z h400 b397 "com/example/opacheck/opacheck/PrecedenceTraversal$Neighbours" "members" "[I" (.ref v_398) := (Fld.ext E400 P398_0)
        have c404 : AL Z h400 v_398 k_398 .int [(.int (0 : Int32)), (.int (0 : Int32)), (.int (0 : Int32)), (.int (0 : Int32)), (.int (0 : Int32)), (.int (0 : Int32)), (.int (0 : Int32)), (.int (0 : Int32)), (.int (0 : Int32)), (.int (0 : Int32)), (.int (0 : Int32)), (.int (0 : Int32)), (.int (0 : Int32)), (.int (0 : Int32)), (.int (0 : Int32)), (.int (0 : Int32))] := (AL.ext E400 P398_1)
        have c405 : Fld Z h400 b397 "com/example/opacheck/opacheck/PrecedenceTraversal$Neighbours" "size" "I" (.int (0 : Int32)) := (Fld.ext E400 P398_3)
        have c406 : Fld Z h400 b397 "com/example/opacheck/opacheck/PrecedenceTraversal$Neighbours" "rangesSize" "I" (.int (0 : Int32)) := (Fld.ext E400 P398_4)
        have c407 : Fld Z h400 b397 "com/example/opacheck/opacheck/PrecedenceTraversal$Neighbours" "count" "I" (.int cnt) := (Fld.ext E400 P398_2)
        have ne408 : b400 ≠ b397 := (Nat.ne_of_gt (Nat.lt_of_lt_of_le A397.lt (Nat.le_trans (Nat.le_trans (Nat.le_refl _) K398.1) (Nat.le_of_eq g400.symm))))
        have ne409 : b400 ≠ v_398 := (Nat.ne_of_gt (Nat.lt_of_lt_of_le P398_1.lt (Nat.le_trans (Nat.le_refl _) (Nat.le_of_eq g400.symm))))
        have O410 : Ext Z.heap h400 := (Ext.trans O401 E400)
        refine Go.callI (y := (⟨"com/example/opacheck/opacheck/PrecedenceTraversal", "<init>", "(Lcom/example/opacheck/opacheck/PrecedenceTraversal$Neighbours;)V"⟩ : MethodName)) (a := b400) (pc' := 69) C X400 rfl (hw _ (List.mem_of_getElem? (i := 20) rfl)) (hw _ (List.mem_of_getElem? (i := 21) rfl)) (by decide) (rm_ctg l Z a0 hw b400 b397 v_398 k_398 cnt h400 O410 A400 F400_members F400_ranges F400_visitedIn F400_positions F400_links F400_linkedIn F400_path F400_number F400_scope c403 c404 c405 c406 c407 n_b400 ne408 ne409 hcnt) (hw _ (List.mem_of_getElem? (i := 22) rfl)) (hw _ (List.mem_of_getElem? (i := 19) rfl)) e400 (argsL := [(.ref b397)]) (rest := [(.ref b400)]) (W := 1) rfl rfl pd_3 rfl (Nat.le_of_eq rfl) rfl (by decide) (by decide) (by decide) (by decide) rfl at_66 rfl ?_
        intro T402 v402 L402 X402 q402
        obtain ⟨vi_402, ki_402, vp_402, kp_402, rfl, N402q, K402, B402_0, B402_1, P402_0, P402_1, P402_2, P402_3, P402_4, P402_5, p402_0⟩ := q402
        have N402 := Fr.app N398 N402q
        have n_vi_402 : Z.heap.size ≤ vi_402 := Nat.le_trans O410.1 B402_0
        have z_vi_402 : h0.size ≤ vi_402 := Nat.le_trans (Nat.le_trans (Nat.le_trans (Nat.le_trans (Nat.le_refl _) E397.1) K398.1) E400.1) B402_0
        have n_vp_402 : Z.heap.size ≤ vp_402 := Nat.le_trans O410.1 B402_1
        have z_vp_402 : h0.size ≤ vp_402 := Nat.le_trans (Nat.le_trans (Nat.le_trans (Nat.le_trans (Nat.le_refl _) E397.1) K398.1) E400.1) B402_1
        refine Go.astore (Ls' := #[.val (.int p1), .val (.int p2), .val (.int p3), .val (.int p4), .val (.int p5), .val (.int cnt), .val (.int t), .val (.int u), .val (.int w), .val (.int (1 : Int32)), .val (.ref b397), .val (.ref b400), .unset, .unset, .unset, .unset]) (pc' := 71) C X402 at_69 rfl rfl rfl ?_
        refine Go.aload (pc' := 73) C X402 at_71 rfl rfl rfl ?_
        refine Go.aconstNull (pc' := 74) C X402 at_73 rfl ?_
        have c412 : Exa Z T402.heap b400 "com/example/opacheck/opacheck/PrecedenceTraversal" := (Exa.keep A400 K402)
        have O413 : Ext Z.heap T402.heap := (Ext.keep O410 K402 (allS n_b400 all0))
        refine Go.callV (y := (⟨"com/example/opacheck/opacheck/PrecedenceTraversal", "restart", "(Ljava/util/function/IntPredicate;)V"⟩ : MethodName)) (z := (⟨"com/example/opacheck/opacheck/PrecedenceTraversal", "restart", "(Ljava/util/function/IntPredicate;)V"⟩ : MethodName)) (a := b400) (pc' := 77) C X402 (hw _ (List.mem_of_getElem? (i := 59) rfl)) (hw _ (List.mem_of_getElem? (i := 60) rfl)) (notFace_at C.2.1 (hw _ (List.mem_of_getElem? (i := 62) rfl))) (hw _ (List.mem_of_getElem? (i := 62) rfl)) (hw _ (List.mem_of_getElem? (i := 61) rfl)) c412 (by decide) (rm_rst l Z a0 hw b400 ((0 : Int32)) vi_402 vp_402 T402.heap O413 c412 P402_4 P402_5 P402_0 P402_2 n_b400) (hw _ (List.mem_of_getElem? (i := 63) rfl)) (hw _ (List.mem_of_getElem? (i := 19) rfl)) rfl (argsL := [.null]) (rest := []) (W := 0) rfl rfl pd_4 rfl (Nat.le_of_eq rfl) rfl (by decide) (by decide) (by decide) (by decide) at_74 rfl ?_
        intro T411 v411 L411 X411 q411
        obtain ⟨rfl, N411q, K411, P411_0, P411_1, P411_2, P411_3⟩ := q411
        have N411 := Fr.app N402 N411q
        refine Go.aload (pc' := 79) C X411 at_77 rfl rfl rfl ?_
        refine Go.iload (pc' := 81) C X411 at_79 rfl rfl ?_
        have ne415 : vi_402 ≠ b400 := (Nat.ne_of_gt (Nat.lt_of_lt_of_le A400.lt (Nat.le_trans (Nat.le_refl _) B402_0)))
        have c416 : AL Z T411.heap vi_402 ki_402 .int (List.replicate cnt.toNatClampNeg (.int 0)) := (AL.keep P402_1 K411 (ninS ne415 nin0))
        have O417 : Ext Z.heap T411.heap := (Ext.keep O413 K411 (allS n_b400 all0))
        have c418 : Exa Z T411.heap b400 "com/example/opacheck/opacheck/PrecedenceTraversal" := (Exa.keep c412 K411)
        refine Go.callV (y := (⟨"com/example/opacheck/opacheck/PrecedenceTraversal", "visited", "(I)Z"⟩ : MethodName)) (z := (⟨"com/example/opacheck/opacheck/PrecedenceTraversal", "visited", "(I)Z"⟩ : MethodName)) (a := b400) (pc' := 84) C X411 (hw _ (List.mem_of_getElem? (i := 68) rfl)) (hw _ (List.mem_of_getElem? (i := 69) rfl)) (notFace_at C.2.1 (hw _ (List.mem_of_getElem? (i := 71) rfl))) (hw _ (List.mem_of_getElem? (i := 71) rfl)) (hw _ (List.mem_of_getElem? (i := 70) rfl)) c418 (by decide) (rm_vdF l Z a0 hw b400 t (((0 : Int32) + (1 : Int32))) vi_402 ki_402 ((List.replicate cnt.toNatClampNeg (.int 0))) ((0 : Int32)) T411.heap O417 P411_0 P411_2 c416 get (own_at _ _ ltt) (by decide)) (hw _ (List.mem_of_getElem? (i := 72) rfl)) (hw _ (List.mem_of_getElem? (i := 19) rfl)) rfl (argsL := [(.int t)]) (rest := []) (W := 0) rfl rfl pd_5 rfl (Nat.le_of_eq rfl) rfl (by decide) (by decide) (by decide) (by decide) at_81 rfl ?_
        intro T414 v414 L414 X414 q414
        obtain ⟨rfl, rfl, e414⟩ := q414
        have N414 := Fr.app N411 (Fr.nil _)
        refine Go.ifNo (pc' := 87) C X414 at_84 ((if0 _ _).trans (teq (x := (0 : Int32)) (y := (0 : Int32)) (by decide)).2) rfl ?_
        refine Go.iconst (z := (1 : Int32)) (pc' := 88) C X414 at_87 rfl rfl ?_
        refine Go.goto (pc' := 92) C X414 at_88 (by decide) (by decide) ?_
        refine Go.istore (Ls' := #[.val (.int p1), .val (.int p2), .val (.int p3), .val (.int p4), .val (.int p5), .val (.int cnt), .val (.int t), .val (.int u), .val (.int w), .val (.int (1 : Int32)), .val (.ref b397), .val (.ref b400), .val (.int (1 : Int32)), .unset, .unset, .unset]) (pc' := 94) C X414 at_92 rfl rfl ?_
        refine Go.aload (pc' := 96) C X414 at_94 rfl rfl rfl ?_
        refine Go.iload (pc' := 98) C X414 at_96 rfl rfl ?_
        have ne421 : vp_402 ≠ b400 := (Nat.ne_of_gt (Nat.lt_of_lt_of_le A400.lt (Nat.le_trans (Nat.le_refl _) B402_1)))
        have c422 : AL Z T411.heap vp_402 kp_402 .int (List.replicate cnt.toNatClampNeg (.int 0)) := (AL.keep P402_3 K411 (ninS ne421 nin0))
        refine Go.callV (y := (⟨"com/example/opacheck/opacheck/PrecedenceTraversal", "visit", "(I)V"⟩ : MethodName)) (z := (⟨"com/example/opacheck/opacheck/PrecedenceTraversal", "visit", "(I)V"⟩ : MethodName)) (a := b400) (pc' := 101) C X414 (hw _ (List.mem_of_getElem? (i := 73) rfl)) (hw _ (List.mem_of_getElem? (i := 74) rfl)) (notFace_at C.2.1 (hw _ (List.mem_of_getElem? (i := 76) rfl))) (hw _ (List.mem_of_getElem? (i := 76) rfl)) (hw _ (List.mem_of_getElem? (i := 75) rfl)) c418 (by decide) (rm_vis l Z a0 hw b400 u (((0 : Int32) + (1 : Int32))) vi_402 ki_402 ((List.replicate cnt.toNatClampNeg (.int 0))) vp_402 kp_402 ((List.replicate cnt.toNatClampNeg (.int 0))) cnt.toNatClampNeg T411.heap O417 P411_0 P411_2 c416 P411_3 c422 geu (by simp) (by simp) ltu n_vi_402 n_vp_402 p402_0 (Ne.symm ne415) (Ne.symm ne421)) (hw _ (List.mem_of_getElem? (i := 77) rfl)) (hw _ (List.mem_of_getElem? (i := 19) rfl)) e414 (argsL := [(.int u)]) (rest := []) (W := 0) rfl rfl pd_2 rfl (Nat.le_of_eq rfl) rfl (by decide) (by decide) (by decide) (by decide) at_98 rfl ?_
        intro T420 v420 L420 X420 q420
        obtain ⟨rfl, N420q, K420, P420_0, P420_1⟩ := q420
        have N420 := Fr.app N414 N420q
        refine Go.iload (pc' := 103) C X420 at_101 rfl rfl ?_
        refine Go.ifNo (pc' := 106) C X420 at_103 ((if0 _ _).trans (feq (x := (1 : Int32)) (y := (0 : Int32)) (by decide)).1) rfl ?_
        refine Go.aload (pc' := 108) C X420 at_106 rfl rfl rfl ?_
        refine Go.iload (pc' := 110) C X420 at_108 rfl rfl ?_
        have c425 : Fld Z T420.heap b400 "com/example/opacheck/opacheck/PrecedenceTraversal" "number" "I" (.int ((0 : Int32) + (1 : Int32))) := (Fld.keep P411_0 K420 (ninS (Ne.symm ne415) (ninS (Ne.symm ne421) nin0)))
        have c426 : Fld Z T420.heap b400 "com/example/opacheck/opacheck/PrecedenceTraversal" "visitedIn" "[I" (.ref vi_402) := (Fld.keep P411_2 K420 (ninS (Ne.symm ne415) (ninS (Ne.symm ne421) nin0)))
        have c427 : Fld Z T420.heap b400 "com/example/opacheck/opacheck/PrecedenceTraversal" "positions" "[I" (.ref vp_402) := (Fld.keep P411_3 K420 (ninS (Ne.symm ne415) (ninS (Ne.symm ne421) nin0)))
        have O428 : Ext Z.heap T420.heap := (Ext.keep O417 K420 (allS n_vi_402 (allS n_vp_402 all0)))
        have c429 : Exa Z T420.heap b400 "com/example/opacheck/opacheck/PrecedenceTraversal" := (Exa.keep c418 K420)
        refine Go.callV (y := (⟨"com/example/opacheck/opacheck/PrecedenceTraversal", "visit", "(I)V"⟩ : MethodName)) (z := (⟨"com/example/opacheck/opacheck/PrecedenceTraversal", "visit", "(I)V"⟩ : MethodName)) (a := b400) (pc' := 113) C X420 (hw _ (List.mem_of_getElem? (i := 73) rfl)) (hw _ (List.mem_of_getElem? (i := 74) rfl)) (notFace_at C.2.1 (hw _ (List.mem_of_getElem? (i := 76) rfl))) (hw _ (List.mem_of_getElem? (i := 76) rfl)) (hw _ (List.mem_of_getElem? (i := 75) rfl)) c429 (by decide) (rm_vis l Z a0 hw b400 w (((0 : Int32) + (1 : Int32))) vi_402 ki_402 (((List.replicate cnt.toNatClampNeg (.int 0)).set u.toNatClampNeg (.int ((0 : Int32) + (1 : Int32))))) vp_402 kp_402 (((List.replicate cnt.toNatClampNeg (.int 0)).set u.toNatClampNeg (.int (0 : Int32)))) cnt.toNatClampNeg T420.heap O428 c425 c426 P420_0 c427 P420_1 gew (by simp) (by simp) ltw n_vi_402 n_vp_402 p402_0 (Ne.symm ne415) (Ne.symm ne421)) (hw _ (List.mem_of_getElem? (i := 77) rfl)) (hw _ (List.mem_of_getElem? (i := 19) rfl)) rfl (argsL := [(.int w)]) (rest := []) (W := 0) rfl rfl pd_2 rfl (Nat.le_of_eq rfl) rfl (by decide) (by decide) (by decide) (by decide) at_110 rfl ?_
        intro T424 v424 L424 X424 q424
        obtain ⟨rfl, N424q, K424, P424_0, P424_1⟩ := q424
        have N424 := Fr.app N420 N424q
        refine Go.aload (pc' := 115) C X424 at_113 rfl rfl rfl ?_
        refine Go.iload (pc' := 117) C X424 at_115 rfl rfl ?_
        have c431 : Fld Z T424.heap b400 "com/example/opacheck/opacheck/PrecedenceTraversal" "number" "I" (.int ((0 : Int32) + (1 : Int32))) := (Fld.keep c425 K424 (ninS (Ne.symm ne415) (ninS (Ne.symm ne421) nin0)))
        have c432 : Fld Z T424.heap b400 "com/example/opacheck/opacheck/PrecedenceTraversal" "visitedIn" "[I" (.ref vi_402) := (Fld.keep c426 K424 (ninS (Ne.symm ne415) (ninS (Ne.symm ne421) nin0)))
        have O433 : Ext Z.heap T424.heap := (Ext.keep O428 K424 (allS n_vi_402 (allS n_vp_402 all0)))
        have c434 : Exa Z T424.heap b400 "com/example/opacheck/opacheck/PrecedenceTraversal" := (Exa.keep c429 K424)
        refine Go.callV (y := (⟨"com/example/opacheck/opacheck/PrecedenceTraversal", "visited", "(I)Z"⟩ : MethodName)) (z := (⟨"com/example/opacheck/opacheck/PrecedenceTraversal", "visited", "(I)Z"⟩ : MethodName)) (a := b400) (pc' := 120) C X424 (hw _ (List.mem_of_getElem? (i := 68) rfl)) (hw _ (List.mem_of_getElem? (i := 69) rfl)) (notFace_at C.2.1 (hw _ (List.mem_of_getElem? (i := 71) rfl))) (hw _ (List.mem_of_getElem? (i := 71) rfl)) (hw _ (List.mem_of_getElem? (i := 70) rfl)) c434 (by decide) (rm_vdT l Z a0 hw b400 t (((0 : Int32) + (1 : Int32))) vi_402 ki_402 ((((List.replicate cnt.toNatClampNeg (.int 0)).set u.toNatClampNeg (.int ((0 : Int32) + (1 : Int32)))).set w.toNatClampNeg (.int ((0 : Int32) + (1 : Int32))))) (((0 : Int32) + (1 : Int32))) T424.heap O433 c431 c432 P424_0 get (own_hit htw (by simpa using ltt)) rfl) (hw _ (List.mem_of_getElem? (i := 72) rfl)) (hw _ (List.mem_of_getElem? (i := 19) rfl)) rfl (argsL := [(.int t)]) (rest := []) (W := 0) rfl rfl pd_5 rfl (Nat.le_of_eq rfl) rfl (by decide) (by decide) (by decide) (by decide) at_117 rfl ?_
        intro T430 v430 L430 X430 q430
        obtain ⟨rfl, rfl, e430⟩ := q430
        have N430 := Fr.app N424 (Fr.nil _)
        refine Go.iload (pc' := 122) C X430 at_120 rfl rfl ?_
        refine Go.iload (pc' := 124) C X430 at_122 rfl rfl ?_
        refine Go.icmpNo (pc' := 127) C X430 at_124 (feq (x := t) (y := u) htu).1 rfl ?_
        refine Go.iload (pc' := 129) C X430 at_127 rfl rfl ?_
        refine Go.ifNo (pc' := 132) C X430 at_129 ((if0 _ _).trans (feq (x := (1 : Int32)) (y := (0 : Int32)) (by decide)).1) rfl ?_
        refine Go.iload (pc' := 134) C X430 at_132 rfl rfl ?_
        refine Go.iload (pc' := 136) C X430 at_134 rfl rfl ?_
        refine Go.icmpNo (pc' := 139) C X430 at_136 (teq (x := t) (y := w) htw).2 rfl ?_
        refine Go.iconst (z := (1 : Int32)) (pc' := 140) C X430 at_139 rfl rfl ?_
        refine Go.goto (pc' := 144) C X430 at_140 (by decide) (by decide) ?_
        refine Go.icmpNo (pc' := 147) C X430 at_144 (teq (x := (1 : Int32)) (y := (1 : Int32)) (by decide)).2 rfl ?_
        refine Go.iconst (z := (1 : Int32)) (pc' := 148) C X430 at_147 rfl rfl ?_
        refine Go.goto (pc' := 152) C X430 at_148 (by decide) (by decide) ?_
        refine Go.istore (Ls' := #[.val (.int p1), .val (.int p2), .val (.int p3), .val (.int p4), .val (.int p5), .val (.int cnt), .val (.int t), .val (.int u), .val (.int w), .val (.int (1 : Int32)), .val (.ref b397), .val (.ref b400), .val (.int (1 : Int32)), .val (.int (1 : Int32)), .unset, .unset]) (pc' := 154) C X430 at_152 rfl rfl ?_
        refine Go.aload (pc' := 156) C X430 at_154 rfl rfl rfl ?_
        refine Go.aconstNull (pc' := 157) C X430 at_156 rfl ?_
        have c440 : Fld Z T424.heap b400 "com/example/opacheck/opacheck/PrecedenceTraversal" "scope" "Ljava/util/function/IntPredicate;" .null := (Fld.keep (Fld.keep P411_1 K420 (ninS (Ne.symm ne415) (ninS (Ne.symm ne421) nin0))) K424 (ninS (Ne.symm ne415) (ninS (Ne.symm ne421) nin0)))
        have c441 : Fld Z T424.heap b400 "com/example/opacheck/opacheck/PrecedenceTraversal" "positions" "[I" (.ref vp_402) := (Fld.keep c427 K424 (ninS (Ne.symm ne415) (ninS (Ne.symm ne421) nin0)))
        refine Go.callV (y := (⟨"com/example/opacheck/opacheck/PrecedenceTraversal", "restart", "(Ljava/util/function/IntPredicate;)V"⟩ : MethodName)) (z := (⟨"com/example/opacheck/opacheck/PrecedenceTraversal", "restart", "(Ljava/util/function/IntPredicate;)V"⟩ : MethodName)) (a := b400) (pc' := 160) C X430 (hw _ (List.mem_of_getElem? (i := 59) rfl)) (hw _ (List.mem_of_getElem? (i := 60) rfl)) (notFace_at C.2.1 (hw _ (List.mem_of_getElem? (i := 62) rfl))) (hw _ (List.mem_of_getElem? (i := 62) rfl)) (hw _ (List.mem_of_getElem? (i := 61) rfl)) c434 (by decide) (rm_rst l Z a0 hw b400 (((0 : Int32) + (1 : Int32))) vi_402 vp_402 T424.heap O433 c434 c431 c440 c432 c441 n_b400) (hw _ (List.mem_of_getElem? (i := 63) rfl)) (hw _ (List.mem_of_getElem? (i := 19) rfl)) e430 (argsL := [.null]) (rest := []) (W := 0) rfl rfl pd_4 rfl (Nat.le_of_eq rfl) rfl (by decide) (by decide) (by decide) (by decide) at_157 rfl ?_
        intro T439 v439 L439 X439 q439
        obtain ⟨rfl, N439q, K439, P439_0, P439_1, P439_2, P439_3⟩ := q439
        have N439 := Fr.app N430 N439q
        refine Go.aload (pc' := 162) C X439 at_160 rfl rfl rfl ?_
        refine Go.iload (pc' := 164) C X439 at_162 rfl rfl ?_
        have c443 : AL Z T439.heap vi_402 ki_402 .int (((List.replicate cnt.toNatClampNeg (.int 0)).set u.toNatClampNeg (.int ((0 : Int32) + (1 : Int32)))).set w.toNatClampNeg (.int ((0 : Int32) + (1 : Int32)))) := (AL.keep P424_0 K439 (ninS ne415 nin0))
        have O444 : Ext Z.heap T439.heap := (Ext.keep O433 K439 (allS n_b400 all0))
        have c445 : Exa Z T439.heap b400 "com/example/opacheck/opacheck/PrecedenceTraversal" := (Exa.keep c434 K439)
        refine Go.callV (y := (⟨"com/example/opacheck/opacheck/PrecedenceTraversal", "visited", "(I)Z"⟩ : MethodName)) (z := (⟨"com/example/opacheck/opacheck/PrecedenceTraversal", "visited", "(I)Z"⟩ : MethodName)) (a := b400) (pc' := 167) C X439 (hw _ (List.mem_of_getElem? (i := 68) rfl)) (hw _ (List.mem_of_getElem? (i := 69) rfl)) (notFace_at C.2.1 (hw _ (List.mem_of_getElem? (i := 71) rfl))) (hw _ (List.mem_of_getElem? (i := 71) rfl)) (hw _ (List.mem_of_getElem? (i := 70) rfl)) c445 (by decide) (rm_vdF l Z a0 hw b400 t ((((0 : Int32) + (1 : Int32)) + (1 : Int32))) vi_402 ki_402 ((((List.replicate cnt.toNatClampNeg (.int 0)).set u.toNatClampNeg (.int ((0 : Int32) + (1 : Int32)))).set w.toNatClampNeg (.int ((0 : Int32) + (1 : Int32))))) (((0 : Int32) + (1 : Int32))) T439.heap O444 P439_0 P439_2 c443 get (own_hit htw (by simpa using ltt)) (by decide)) (hw _ (List.mem_of_getElem? (i := 72) rfl)) (hw _ (List.mem_of_getElem? (i := 19) rfl)) rfl (argsL := [(.int t)]) (rest := []) (W := 0) rfl rfl pd_5 rfl (Nat.le_of_eq rfl) rfl (by decide) (by decide) (by decide) (by decide) at_164 rfl ?_
        intro T442 v442 L442 X442 q442
        obtain ⟨rfl, rfl, e442⟩ := q442
        have N442 := Fr.app N439 (Fr.nil _)
        refine Go.ifNo (pc' := 170) C X442 at_167 ((if0 _ _).trans (teq (x := (0 : Int32)) (y := (0 : Int32)) (by decide)).2) rfl ?_
        refine Go.iconst (z := (1 : Int32)) (pc' := 171) C X442 at_170 rfl rfl ?_
        refine Go.goto (pc' := 175) C X442 at_171 (by decide) (by decide) ?_
        refine Go.istore (Ls' := #[.val (.int p1), .val (.int p2), .val (.int p3), .val (.int p4), .val (.int p5), .val (.int cnt), .val (.int t), .val (.int u), .val (.int w), .val (.int (1 : Int32)), .val (.ref b397), .val (.ref b400), .val (.int (1 : Int32)), .val (.int (1 : Int32)), .val (.int (1 : Int32)), .unset]) (pc' := 177) C X442 at_175 rfl rfl ?_
        refine Go.aload (pc' := 179) C X442 at_177 rfl rfl rfl ?_
        refine Go.iload (pc' := 181) C X442 at_179 rfl rfl ?_
        have c448 : AL Z T439.heap vp_402 kp_402 .int (((List.replicate cnt.toNatClampNeg (.int 0)).set u.toNatClampNeg (.int (0 : Int32))).set w.toNatClampNeg (.int (0 : Int32))) := (AL.keep P424_1 K439 (ninS ne421 nin0))
        refine Go.callV (y := (⟨"com/example/opacheck/opacheck/PrecedenceTraversal", "visit", "(I)V"⟩ : MethodName)) (z := (⟨"com/example/opacheck/opacheck/PrecedenceTraversal", "visit", "(I)V"⟩ : MethodName)) (a := b400) (pc' := 184) C X442 (hw _ (List.mem_of_getElem? (i := 73) rfl)) (hw _ (List.mem_of_getElem? (i := 74) rfl)) (notFace_at C.2.1 (hw _ (List.mem_of_getElem? (i := 76) rfl))) (hw _ (List.mem_of_getElem? (i := 76) rfl)) (hw _ (List.mem_of_getElem? (i := 75) rfl)) c445 (by decide) (rm_vis l Z a0 hw b400 w ((((0 : Int32) + (1 : Int32)) + (1 : Int32))) vi_402 ki_402 ((((List.replicate cnt.toNatClampNeg (.int 0)).set u.toNatClampNeg (.int ((0 : Int32) + (1 : Int32)))).set w.toNatClampNeg (.int ((0 : Int32) + (1 : Int32))))) vp_402 kp_402 ((((List.replicate cnt.toNatClampNeg (.int 0)).set u.toNatClampNeg (.int (0 : Int32))).set w.toNatClampNeg (.int (0 : Int32)))) cnt.toNatClampNeg T439.heap O444 P439_0 P439_2 c443 P439_3 c448 gew (by simp) (by simp) ltw n_vi_402 n_vp_402 p402_0 (Ne.symm ne415) (Ne.symm ne421)) (hw _ (List.mem_of_getElem? (i := 77) rfl)) (hw _ (List.mem_of_getElem? (i := 19) rfl)) e442 (argsL := [(.int w)]) (rest := []) (W := 0) rfl rfl pd_2 rfl (Nat.le_of_eq rfl) rfl (by decide) (by decide) (by decide) (by decide) at_181 rfl ?_
        intro T447 v447 L447 X447 q447
        obtain ⟨rfl, N447q, K447, P447_0, P447_1⟩ := q447
        have N447 := Fr.app N442 N447q
        refine Go.aload (pc' := 186) C X447 at_184 rfl rfl rfl ?_
        refine Go.iload (pc' := 188) C X447 at_186 rfl rfl ?_
        have c450 : Fld Z T447.heap b400 "com/example/opacheck/opacheck/PrecedenceTraversal" "number" "I" (.int (((0 : Int32) + (1 : Int32)) + (1 : Int32))) := (Fld.keep P439_0 K447 (ninS (Ne.symm ne415) (ninS (Ne.symm ne421) nin0)))
        have c451 : Fld Z T447.heap b400 "com/example/opacheck/opacheck/PrecedenceTraversal" "visitedIn" "[I" (.ref vi_402) := (Fld.keep P439_2 K447 (ninS (Ne.symm ne415) (ninS (Ne.symm ne421) nin0)))
        have O452 : Ext Z.heap T447.heap := (Ext.keep O444 K447 (allS n_vi_402 (allS n_vp_402 all0)))
        have c453 : Exa Z T447.heap b400 "com/example/opacheck/opacheck/PrecedenceTraversal" := (Exa.keep c445 K447)
        refine Go.callV (y := (⟨"com/example/opacheck/opacheck/PrecedenceTraversal", "visited", "(I)Z"⟩ : MethodName)) (z := (⟨"com/example/opacheck/opacheck/PrecedenceTraversal", "visited", "(I)Z"⟩ : MethodName)) (a := b400) (pc' := 191) C X447 (hw _ (List.mem_of_getElem? (i := 68) rfl)) (hw _ (List.mem_of_getElem? (i := 69) rfl)) (notFace_at C.2.1 (hw _ (List.mem_of_getElem? (i := 71) rfl))) (hw _ (List.mem_of_getElem? (i := 71) rfl)) (hw _ (List.mem_of_getElem? (i := 70) rfl)) c453 (by decide) (rm_vdT l Z a0 hw b400 t ((((0 : Int32) + (1 : Int32)) + (1 : Int32))) vi_402 ki_402 (((((List.replicate cnt.toNatClampNeg (.int 0)).set u.toNatClampNeg (.int ((0 : Int32) + (1 : Int32)))).set w.toNatClampNeg (.int ((0 : Int32) + (1 : Int32)))).set w.toNatClampNeg (.int (((0 : Int32) + (1 : Int32)) + (1 : Int32))))) ((((0 : Int32) + (1 : Int32)) + (1 : Int32))) T447.heap O452 c450 c451 P447_0 get (own_hit htw (by simpa using ltt)) rfl) (hw _ (List.mem_of_getElem? (i := 72) rfl)) (hw _ (List.mem_of_getElem? (i := 19) rfl)) rfl (argsL := [(.int t)]) (rest := []) (W := 0) rfl rfl pd_5 rfl (Nat.le_of_eq rfl) rfl (by decide) (by decide) (by decide) (by decide) at_188 rfl ?_
        intro T449 v449 L449 X449 q449
        obtain ⟨rfl, rfl, e449⟩ := q449
        have N449 := Fr.app N447 (Fr.nil _)
        refine Go.iload (pc' := 193) C X449 at_191 rfl rfl ?_
        refine Go.iload (pc' := 195) C X449 at_193 rfl rfl ?_
        refine Go.icmpNo (pc' := 198) C X449 at_195 (teq (x := t) (y := w) htw).2 rfl ?_
        refine Go.iconst (z := (1 : Int32)) (pc' := 199) C X449 at_198 rfl rfl ?_
        refine Go.goto (pc' := 203) C X449 at_199 (by decide) (by decide) ?_
        refine Go.icmpNo (pc' := 206) C X449 at_203 (teq (x := (1 : Int32)) (y := (1 : Int32)) (by decide)).2 rfl ?_
        refine Go.iconst (z := (1 : Int32)) (pc' := 207) C X449 at_206 rfl rfl ?_
        refine Go.goto (pc' := 211) C X449 at_207 (by decide) (by decide) ?_
        refine Go.istore (Ls' := #[.val (.int p1), .val (.int p2), .val (.int p3), .val (.int p4), .val (.int p5), .val (.int cnt), .val (.int t), .val (.int u), .val (.int w), .val (.int (1 : Int32)), .val (.ref b397), .val (.ref b400), .val (.int (1 : Int32)), .val (.int (1 : Int32)), .val (.int (1 : Int32)), .val (.int (1 : Int32))]) (pc' := 213) C X449 at_211 rfl rfl ?_
        refine Go.iload (pc' := 215) C X449 at_213 rfl rfl ?_
        refine Go.ifNo (pc' := 218) C X449 at_215 ((if0 _ _).trans (feq (x := (1 : Int32)) (y := (0 : Int32)) (by decide)).1) rfl ?_
        refine Go.iload (pc' := 220) C X449 at_218 rfl rfl ?_
        refine Go.ifNo (pc' := 223) C X449 at_220 ((if0 _ _).trans (feq (x := (1 : Int32)) (y := (0 : Int32)) (by decide)).1) rfl ?_
        refine Go.iload (pc' := 225) C X449 at_223 rfl rfl ?_
        refine Go.ifNo (pc' := 228) C X449 at_225 ((if0 _ _).trans (feq (x := (1 : Int32)) (y := (0 : Int32)) (by decide)).1) rfl ?_
        refine Go.iload (pc' := 230) C X449 at_228 rfl rfl ?_
        refine Go.ifNo (pc' := 233) C X449 at_230 ((if0 _ _).trans (feq (x := (1 : Int32)) (y := (0 : Int32)) (by decide)).1) rfl ?_
        refine Go.iconst (z := (1 : Int32)) (pc' := 234) C X449 at_233 rfl rfl ?_
        refine Go.goto (pc' := 238) C X449 at_234 (by decide) (by decide) ?_
        have K460 : Keep h0 T447.heap [] := ((((((((((Keep.refl h0 []).ext E397).trans K398 (allS (Or.inr z_b397) all0)).ext E400).trans K402 (allS (Or.inr z_b400) all0)).trans K411 (allS (Or.inr z_b400) all0)).trans K420 (allS (Or.inr z_vi_402) (allS (Or.inr z_vp_402) all0))).trans K424 (allS (Or.inr z_vi_402) (allS (Or.inr z_vp_402) all0))).trans K439 (allS (Or.inr z_b400) all0)).trans K447 (allS (Or.inr z_vi_402) (allS (Or.inr z_vp_402) all0)))
        exact Go.retN C X449 rfl at_238 (by simp) (by rw [e449]; exact ⟨rfl, N449, K460⟩) (by decide) (by decide)
    · refine Go.iload (pc' := 37) C X0 at_35 rfl rfl ?_
      refine Go.iconst (z := (1 : Int32)) (pc' := 38) C X0 at_37 rfl rfl ?_
      refine Go.iand (pc' := 39) C X0 at_38 rfl ?_
      by_cases hc39_461 : (p5 &&& (1 : Int32)) = (0 : Int32)
      · refine Go.ifYes (pc' := 46) C X0 at_39 ((if0 _ _).trans (teq (x := (p5 &&& (1 : Int32))) (y := (0 : Int32)) hc39_461).1) (by decide) (by decide) ?_
        refine Go.iconst (z := (0 : Int32)) (pc' := 47) C X0 at_46 rfl rfl ?_
        refine Go.istore (Ls' := #[.val (.int p1), .val (.int p2), .val (.int p3), .val (.int p4), .val (.int p5), .val (.int cnt), .val (.int t), .val (.int u), .val (.int w), .val (.int (0 : Int32)), .unset, .unset, .unset, .unset, .unset, .unset]) (pc' := 49) C X0 at_47 rfl rfl ?_
        refine Go.newO (pc' := 52) C X0 (hw _ (List.mem_of_getElem? (i := 1) rfl)) (hw _ (List.mem_of_getElem? (i := 2) rfl)) (hw _ (List.mem_of_getElem? (i := 3) rfl)) e0 (by decide) (by decide) at_49 rfl ?_
        intro T462 h462 b462 X462 e462 g462 E462 A462 D462
        have n_b462 : Z.heap.size ≤ b462 := Nat.le_trans O0.1 (Nat.le_of_eq g462.symm)
        have z_b462 : h0.size ≤ b462 := Nat.le_trans (Nat.le_refl _) (Nat.le_of_eq g462.symm)
        have F462_members : Fld Z h462 b462 "com/example/opacheck/opacheck/PrecedenceTraversal$Neighbours" "members" "[I" .null := D462 (Or.inl (hw _ (List.mem_of_getElem? (i := 12) rfl))) (ty := (.array .int)) (by decide)
        have F462_ranges : Fld Z h462 b462 "com/example/opacheck/opacheck/PrecedenceTraversal$Neighbours" "ranges" "[I" .null := D462 (Or.inl (hw _ (List.mem_of_getElem? (i := 14) rfl))) (ty := (.array .int)) (by decide)
        have F462_count : Fld Z h462 b462 "com/example/opacheck/opacheck/PrecedenceTraversal$Neighbours" "count" "I" (.int (0 : Int32)) := D462 (Or.inr (hw _ (List.mem_of_getElem? (i := 16) rfl))) (ty := .int) (by decide)
        have F462_size : Fld Z h462 b462 "com/example/opacheck/opacheck/PrecedenceTraversal$Neighbours" "size" "I" (.int (0 : Int32)) := D462 (Or.inl (hw _ (List.mem_of_getElem? (i := 27) rfl))) (ty := .int) (by decide)
        have F462_rangesSize : Fld Z h462 b462 "com/example/opacheck/opacheck/PrecedenceTraversal$Neighbours" "rangesSize" "I" (.int (0 : Int32)) := D462 (Or.inl (hw _ (List.mem_of_getElem? (i := 43) rfl))) (ty := .int) (by decide)
        refine Go.dup (pc' := 53) C X462 at_52 rfl rfl ?_
        refine Go.iload (pc' := 55) C X462 at_53 rfl rfl ?_
        have O464 : Ext Z.heap h462 := (Ext.trans O0 E462)
        refine Go.callI (y := (⟨"com/example/opacheck/opacheck/PrecedenceTraversal$Neighbours", "<init>", "(I)V"⟩ : MethodName)) (a := b462) (pc' := 58) C X462 rfl (hw _ (List.mem_of_getElem? (i := 4) rfl)) (hw _ (List.mem_of_getElem? (i := 5) rfl)) (by decide) (rm_nb l Z a0 hw b462 cnt h462 O464 A462 F462_members F462_ranges F462_count F462_size F462_rangesSize n_b462) (hw _ (List.mem_of_getElem? (i := 6) rfl)) (hw _ (List.mem_of_getElem? (i := 3) rfl)) e462 (argsL := [(.int cnt)]) (rest := [(.ref b462)]) (W := 1) rfl rfl pd_2 rfl (Nat.le_of_eq rfl) rfl (by decide) (by decide) (by decide) (by decide) rfl at_55 rfl ?_
        intro T463 v463 L463 X463 q463
        obtain ⟨v_463, k_463, rfl, N463q, K463, B463_0, P463_0, P463_1, P463_2, P463_3, P463_4⟩ := q463
        have N463 := Fr.app N0 N463q
        have n_v_463 : Z.heap.size ≤ v_463 := Nat.le_trans O464.1 B463_0
        have z_v_463 : h0.size ≤ v_463 := Nat.le_trans (Nat.le_trans (Nat.le_refl _) E462.1) B463_0
        refine Go.astore (Ls' := #[.val (.int p1), .val (.int p2), .val (.int p3), .val (.int p4), .val (.int p5), .val (.int cnt), .val (.int t), .val (.int u), .val (.int w), .val (.int (0 : Int32)), .val (.ref b462), .unset, .unset, .unset, .unset, .unset]) (pc' := 60) C X463 at_58 rfl rfl rfl ?_
        have O466 : Ext Z.heap T463.heap := (Ext.keep O464 K463 (allS n_b462 all0))
        refine Go.newO (pc' := 63) C X463 (hw _ (List.mem_of_getElem? (i := 17) rfl)) (hw _ (List.mem_of_getElem? (i := 18) rfl)) (hw _ (List.mem_of_getElem? (i := 19) rfl)) rfl (by decide) (by decide) at_60 rfl ?_
        intro T465 h465 b465 X465 e465 g465 E465 A465 D465
        have n_b465 : Z.heap.size ≤ b465 := Nat.le_trans O466.1 (Nat.le_of_eq g465.symm)
        have z_b465 : h0.size ≤ b465 := Nat.le_trans (Nat.le_trans (Nat.le_trans (Nat.le_refl _) E462.1) K463.1) (Nat.le_of_eq g465.symm)
        have F465_members : Fld Z h465 b465 "com/example/opacheck/opacheck/PrecedenceTraversal" "members" "[I" .null := D465 (Or.inr (hw _ (List.mem_of_getElem? (i := 41) rfl))) (ty := (.array .int)) (by decide)
        have F465_ranges : Fld Z h465 b465 "com/example/opacheck/opacheck/PrecedenceTraversal" "ranges" "[[I" .null := D465 (Or.inr (hw _ (List.mem_of_getElem? (i := 47) rfl))) (ty := (.array (.array .int))) (by decide)
        have F465_visitedIn : Fld Z h465 b465 "com/example/opacheck/opacheck/PrecedenceTraversal" "visitedIn" "[I" .null := D465 (Or.inr (hw _ (List.mem_of_getElem? (i := 50) rfl))) (ty := (.array .int)) (by decide)
        have F465_positions : Fld Z h465 b465 "com/example/opacheck/opacheck/PrecedenceTraversal" "positions" "[I" .null := D465 (Or.inr (hw _ (List.mem_of_getElem? (i := 52) rfl))) (ty := (.array .int)) (by decide)
        have F465_links : Fld Z h465 b465 "com/example/opacheck/opacheck/PrecedenceTraversal" "links" "[I" .null := D465 (Or.inr (hw _ (List.mem_of_getElem? (i := 54) rfl))) (ty := (.array .int)) (by decide)
        have F465_linkedIn : Fld Z h465 b465 "com/example/opacheck/opacheck/PrecedenceTraversal" "linkedIn" "[I" .null := D465 (Or.inr (hw _ (List.mem_of_getElem? (i := 56) rfl))) (ty := (.array .int)) (by decide)
        have F465_path : Fld Z h465 b465 "com/example/opacheck/opacheck/PrecedenceTraversal" "path" "[I" .null := D465 (Or.inr (hw _ (List.mem_of_getElem? (i := 58) rfl))) (ty := (.array .int)) (by decide)
        have F465_number : Fld Z h465 b465 "com/example/opacheck/opacheck/PrecedenceTraversal" "number" "I" (.int (0 : Int32)) := D465 (Or.inl (hw _ (List.mem_of_getElem? (i := 65) rfl))) (ty := .int) (by decide)
        have F465_scope : Fld Z h465 b465 "com/example/opacheck/opacheck/PrecedenceTraversal" "scope" "Ljava/util/function/IntPredicate;" .null := D465 (Or.inl (hw _ (List.mem_of_getElem? (i := 67) rfl))) (ty := (.object "java/util/function/IntPredicate")) (by decide)
        refine Go.dup (pc' := 64) C X465 at_63 rfl rfl ?_
        refine Go.aload (pc' := 66) C X465 at_64 rfl rfl rfl ?_
        have c468 : Fld Z h465 b462 "com/example/opacheck/opacheck/PrecedenceTraversal$Neighbours" "members" "[I" (.ref v_463) := (Fld.ext E465 P463_0)
        have c469 : AL Z h465 v_463 k_463 .int [(.int (0 : Int32)), (.int (0 : Int32)), (.int (0 : Int32)), (.int (0 : Int32)), (.int (0 : Int32)), (.int (0 : Int32)), (.int (0 : Int32)), (.int (0 : Int32)), (.int (0 : Int32)), (.int (0 : Int32)), (.int (0 : Int32)), (.int (0 : Int32)), (.int (0 : Int32)), (.int (0 : Int32)), (.int (0 : Int32)), (.int (0 : Int32))] := (AL.ext E465 P463_1)
        have c470 : Fld Z h465 b462 "com/example/opacheck/opacheck/PrecedenceTraversal$Neighbours" "size" "I" (.int (0 : Int32)) := (Fld.ext E465 P463_3)
        have c471 : Fld Z h465 b462 "com/example/opacheck/opacheck/PrecedenceTraversal$Neighbours" "rangesSize" "I" (.int (0 : Int32)) := (Fld.ext E465 P463_4)
        have c472 : Fld Z h465 b462 "com/example/opacheck/opacheck/PrecedenceTraversal$Neighbours" "count" "I" (.int cnt) := (Fld.ext E465 P463_2)
        have ne473 : b465 ≠ b462 := (Nat.ne_of_gt (Nat.lt_of_lt_of_le A462.lt (Nat.le_trans (Nat.le_trans (Nat.le_refl _) K463.1) (Nat.le_of_eq g465.symm))))
        have ne474 : b465 ≠ v_463 := (Nat.ne_of_gt (Nat.lt_of_lt_of_le P463_1.lt (Nat.le_trans (Nat.le_refl _) (Nat.le_of_eq g465.symm))))
        have O475 : Ext Z.heap h465 := (Ext.trans O466 E465)
        refine Go.callI (y := (⟨"com/example/opacheck/opacheck/PrecedenceTraversal", "<init>", "(Lcom/example/opacheck/opacheck/PrecedenceTraversal$Neighbours;)V"⟩ : MethodName)) (a := b465) (pc' := 69) C X465 rfl (hw _ (List.mem_of_getElem? (i := 20) rfl)) (hw _ (List.mem_of_getElem? (i := 21) rfl)) (by decide) (rm_ctg l Z a0 hw b465 b462 v_463 k_463 cnt h465 O475 A465 F465_members F465_ranges F465_visitedIn F465_positions F465_links F465_linkedIn F465_path F465_number F465_scope c468 c469 c470 c471 c472 n_b465 ne473 ne474 hcnt) (hw _ (List.mem_of_getElem? (i := 22) rfl)) (hw _ (List.mem_of_getElem? (i := 19) rfl)) e465 (argsL := [(.ref b462)]) (rest := [(.ref b465)]) (W := 1) rfl rfl pd_3 rfl (Nat.le_of_eq rfl) rfl (by decide) (by decide) (by decide) (by decide) rfl at_66 rfl ?_
        intro T467 v467 L467 X467 q467
        obtain ⟨vi_467, ki_467, vp_467, kp_467, rfl, N467q, K467, B467_0, B467_1, P467_0, P467_1, P467_2, P467_3, P467_4, P467_5, p467_0⟩ := q467
        have N467 := Fr.app N463 N467q
        have n_vi_467 : Z.heap.size ≤ vi_467 := Nat.le_trans O475.1 B467_0
        have z_vi_467 : h0.size ≤ vi_467 := Nat.le_trans (Nat.le_trans (Nat.le_trans (Nat.le_trans (Nat.le_refl _) E462.1) K463.1) E465.1) B467_0
        have n_vp_467 : Z.heap.size ≤ vp_467 := Nat.le_trans O475.1 B467_1
        have z_vp_467 : h0.size ≤ vp_467 := Nat.le_trans (Nat.le_trans (Nat.le_trans (Nat.le_trans (Nat.le_refl _) E462.1) K463.1) E465.1) B467_1
        refine Go.astore (Ls' := #[.val (.int p1), .val (.int p2), .val (.int p3), .val (.int p4), .val (.int p5), .val (.int cnt), .val (.int t), .val (.int u), .val (.int w), .val (.int (0 : Int32)), .val (.ref b462), .val (.ref b465), .unset, .unset, .unset, .unset]) (pc' := 71) C X467 at_69 rfl rfl rfl ?_
        refine Go.aload (pc' := 73) C X467 at_71 rfl rfl rfl ?_
        refine Go.aconstNull (pc' := 74) C X467 at_73 rfl ?_
        have c477 : Exa Z T467.heap b465 "com/example/opacheck/opacheck/PrecedenceTraversal" := (Exa.keep A465 K467)
        have O478 : Ext Z.heap T467.heap := (Ext.keep O475 K467 (allS n_b465 all0))
        refine Go.callV (y := (⟨"com/example/opacheck/opacheck/PrecedenceTraversal", "restart", "(Ljava/util/function/IntPredicate;)V"⟩ : MethodName)) (z := (⟨"com/example/opacheck/opacheck/PrecedenceTraversal", "restart", "(Ljava/util/function/IntPredicate;)V"⟩ : MethodName)) (a := b465) (pc' := 77) C X467 (hw _ (List.mem_of_getElem? (i := 59) rfl)) (hw _ (List.mem_of_getElem? (i := 60) rfl)) (notFace_at C.2.1 (hw _ (List.mem_of_getElem? (i := 62) rfl))) (hw _ (List.mem_of_getElem? (i := 62) rfl)) (hw _ (List.mem_of_getElem? (i := 61) rfl)) c477 (by decide) (rm_rst l Z a0 hw b465 ((0 : Int32)) vi_467 vp_467 T467.heap O478 c477 P467_4 P467_5 P467_0 P467_2 n_b465) (hw _ (List.mem_of_getElem? (i := 63) rfl)) (hw _ (List.mem_of_getElem? (i := 19) rfl)) rfl (argsL := [.null]) (rest := []) (W := 0) rfl rfl pd_4 rfl (Nat.le_of_eq rfl) rfl (by decide) (by decide) (by decide) (by decide) at_74 rfl ?_
        intro T476 v476 L476 X476 q476
        obtain ⟨rfl, N476q, K476, P476_0, P476_1, P476_2, P476_3⟩ := q476
        have N476 := Fr.app N467 N476q
        refine Go.aload (pc' := 79) C X476 at_77 rfl rfl rfl ?_
        refine Go.iload (pc' := 81) C X476 at_79 rfl rfl ?_
        have ne480 : vi_467 ≠ b465 := (Nat.ne_of_gt (Nat.lt_of_lt_of_le A465.lt (Nat.le_trans (Nat.le_refl _) B467_0)))
        have c481 : AL Z T476.heap vi_467 ki_467 .int (List.replicate cnt.toNatClampNeg (.int 0)) := (AL.keep P467_1 K476 (ninS ne480 nin0))
        have O482 : Ext Z.heap T476.heap := (Ext.keep O478 K476 (allS n_b465 all0))
        have c483 : Exa Z T476.heap b465 "com/example/opacheck/opacheck/PrecedenceTraversal" := (Exa.keep c477 K476)
        refine Go.callV (y := (⟨"com/example/opacheck/opacheck/PrecedenceTraversal", "visited", "(I)Z"⟩ : MethodName)) (z := (⟨"com/example/opacheck/opacheck/PrecedenceTraversal", "visited", "(I)Z"⟩ : MethodName)) (a := b465) (pc' := 84) C X476 (hw _ (List.mem_of_getElem? (i := 68) rfl)) (hw _ (List.mem_of_getElem? (i := 69) rfl)) (notFace_at C.2.1 (hw _ (List.mem_of_getElem? (i := 71) rfl))) (hw _ (List.mem_of_getElem? (i := 71) rfl)) (hw _ (List.mem_of_getElem? (i := 70) rfl)) c483 (by decide) (rm_vdF l Z a0 hw b465 t (((0 : Int32) + (1 : Int32))) vi_467 ki_467 ((List.replicate cnt.toNatClampNeg (.int 0))) ((0 : Int32)) T476.heap O482 P476_0 P476_2 c481 get (own_at _ _ ltt) (by decide)) (hw _ (List.mem_of_getElem? (i := 72) rfl)) (hw _ (List.mem_of_getElem? (i := 19) rfl)) rfl (argsL := [(.int t)]) (rest := []) (W := 0) rfl rfl pd_5 rfl (Nat.le_of_eq rfl) rfl (by decide) (by decide) (by decide) (by decide) at_81 rfl ?_
        intro T479 v479 L479 X479 q479
        obtain ⟨rfl, rfl, e479⟩ := q479
        have N479 := Fr.app N476 (Fr.nil _)
        refine Go.ifNo (pc' := 87) C X479 at_84 ((if0 _ _).trans (teq (x := (0 : Int32)) (y := (0 : Int32)) (by decide)).2) rfl ?_
        refine Go.iconst (z := (1 : Int32)) (pc' := 88) C X479 at_87 rfl rfl ?_
        refine Go.goto (pc' := 92) C X479 at_88 (by decide) (by decide) ?_
        refine Go.istore (Ls' := #[.val (.int p1), .val (.int p2), .val (.int p3), .val (.int p4), .val (.int p5), .val (.int cnt), .val (.int t), .val (.int u), .val (.int w), .val (.int (0 : Int32)), .val (.ref b462), .val (.ref b465), .val (.int (1 : Int32)), .unset, .unset, .unset]) (pc' := 94) C X479 at_92 rfl rfl ?_
        refine Go.aload (pc' := 96) C X479 at_94 rfl rfl rfl ?_
        refine Go.iload (pc' := 98) C X479 at_96 rfl rfl ?_
        have ne486 : vp_467 ≠ b465 := (Nat.ne_of_gt (Nat.lt_of_lt_of_le A465.lt (Nat.le_trans (Nat.le_refl _) B467_1)))
        have c487 : AL Z T476.heap vp_467 kp_467 .int (List.replicate cnt.toNatClampNeg (.int 0)) := (AL.keep P467_3 K476 (ninS ne486 nin0))
        refine Go.callV (y := (⟨"com/example/opacheck/opacheck/PrecedenceTraversal", "visit", "(I)V"⟩ : MethodName)) (z := (⟨"com/example/opacheck/opacheck/PrecedenceTraversal", "visit", "(I)V"⟩ : MethodName)) (a := b465) (pc' := 101) C X479 (hw _ (List.mem_of_getElem? (i := 73) rfl)) (hw _ (List.mem_of_getElem? (i := 74) rfl)) (notFace_at C.2.1 (hw _ (List.mem_of_getElem? (i := 76) rfl))) (hw _ (List.mem_of_getElem? (i := 76) rfl)) (hw _ (List.mem_of_getElem? (i := 75) rfl)) c483 (by decide) (rm_vis l Z a0 hw b465 u (((0 : Int32) + (1 : Int32))) vi_467 ki_467 ((List.replicate cnt.toNatClampNeg (.int 0))) vp_467 kp_467 ((List.replicate cnt.toNatClampNeg (.int 0))) cnt.toNatClampNeg T476.heap O482 P476_0 P476_2 c481 P476_3 c487 geu (by simp) (by simp) ltu n_vi_467 n_vp_467 p467_0 (Ne.symm ne480) (Ne.symm ne486)) (hw _ (List.mem_of_getElem? (i := 77) rfl)) (hw _ (List.mem_of_getElem? (i := 19) rfl)) e479 (argsL := [(.int u)]) (rest := []) (W := 0) rfl rfl pd_2 rfl (Nat.le_of_eq rfl) rfl (by decide) (by decide) (by decide) (by decide) at_98 rfl ?_
        intro T485 v485 L485 X485 q485
        obtain ⟨rfl, N485q, K485, P485_0, P485_1⟩ := q485
        have N485 := Fr.app N479 N485q
        refine Go.iload (pc' := 103) C X485 at_101 rfl rfl ?_
        refine Go.ifYes (pc' := 113) C X485 at_103 ((if0 _ _).trans (teq (x := (0 : Int32)) (y := (0 : Int32)) (by decide)).1) (by decide) (by decide) ?_
        refine Go.aload (pc' := 115) C X485 at_113 rfl rfl rfl ?_
        refine Go.iload (pc' := 117) C X485 at_115 rfl rfl ?_
        have c490 : Fld Z T485.heap b465 "com/example/opacheck/opacheck/PrecedenceTraversal" "number" "I" (.int ((0 : Int32) + (1 : Int32))) := (Fld.keep P476_0 K485 (ninS (Ne.symm ne480) (ninS (Ne.symm ne486) nin0)))
        have c491 : Fld Z T485.heap b465 "com/example/opacheck/opacheck/PrecedenceTraversal" "visitedIn" "[I" (.ref vi_467) := (Fld.keep P476_2 K485 (ninS (Ne.symm ne480) (ninS (Ne.symm ne486) nin0)))
        have O492 : Ext Z.heap T485.heap := (Ext.keep O482 K485 (allS n_vi_467 (allS n_vp_467 all0)))
        have c493 : Exa Z T485.heap b465 "com/example/opacheck/opacheck/PrecedenceTraversal" := (Exa.keep c483 K485)
        refine Go.callV (y := (⟨"com/example/opacheck/opacheck/PrecedenceTraversal", "visited", "(I)Z"⟩ : MethodName)) (z := (⟨"com/example/opacheck/opacheck/PrecedenceTraversal", "visited", "(I)Z"⟩ : MethodName)) (a := b465) (pc' := 120) C X485 (hw _ (List.mem_of_getElem? (i := 68) rfl)) (hw _ (List.mem_of_getElem? (i := 69) rfl)) (notFace_at C.2.1 (hw _ (List.mem_of_getElem? (i := 71) rfl))) (hw _ (List.mem_of_getElem? (i := 71) rfl)) (hw _ (List.mem_of_getElem? (i := 70) rfl)) c493 (by decide) (rm_vdF l Z a0 hw b465 t (((0 : Int32) + (1 : Int32))) vi_467 ki_467 (((List.replicate cnt.toNatClampNeg (.int 0)).set u.toNatClampNeg (.int ((0 : Int32) + (1 : Int32))))) ((0 : Int32)) T485.heap O492 c490 c491 P485_0 get (own_miss get geu htu (own_at _ _ ltt)) (by decide)) (hw _ (List.mem_of_getElem? (i := 72) rfl)) (hw _ (List.mem_of_getElem? (i := 19) rfl)) rfl (argsL := [(.int t)]) (rest := []) (W := 0) rfl rfl pd_5 rfl (Nat.le_of_eq rfl) rfl (by decide) (by decide) (by decide) (by decide) at_117 rfl ?_
        intro T489 v489 L489 X489 q489
        obtain ⟨rfl, rfl, e489⟩ := q489
        have N489 := Fr.app N485 (Fr.nil _)
        refine Go.iload (pc' := 122) C X489 at_120 rfl rfl ?_
        refine Go.iload (pc' := 124) C X489 at_122 rfl rfl ?_
        refine Go.icmpNo (pc' := 127) C X489 at_124 (feq (x := t) (y := u) htu).1 rfl ?_
        refine Go.iload (pc' := 129) C X489 at_127 rfl rfl ?_
        refine Go.ifYes (pc' := 143) C X489 at_129 ((if0 _ _).trans (teq (x := (0 : Int32)) (y := (0 : Int32)) (by decide)).1) (by decide) (by decide) ?_
        refine Go.iconst (z := (0 : Int32)) (pc' := 144) C X489 at_143 rfl rfl ?_
        refine Go.icmpNo (pc' := 147) C X489 at_144 (teq (x := (0 : Int32)) (y := (0 : Int32)) (by decide)).2 rfl ?_
        refine Go.iconst (z := (1 : Int32)) (pc' := 148) C X489 at_147 rfl rfl ?_
        refine Go.goto (pc' := 152) C X489 at_148 (by decide) (by decide) ?_
        refine Go.istore (Ls' := #[.val (.int p1), .val (.int p2), .val (.int p3), .val (.int p4), .val (.int p5), .val (.int cnt), .val (.int t), .val (.int u), .val (.int w), .val (.int (0 : Int32)), .val (.ref b462), .val (.ref b465), .val (.int (1 : Int32)), .val (.int (1 : Int32)), .unset, .unset]) (pc' := 154) C X489 at_152 rfl rfl ?_
        refine Go.aload (pc' := 156) C X489 at_154 rfl rfl rfl ?_
        refine Go.aconstNull (pc' := 157) C X489 at_156 rfl ?_
        have c498 : Fld Z T485.heap b465 "com/example/opacheck/opacheck/PrecedenceTraversal" "scope" "Ljava/util/function/IntPredicate;" .null := (Fld.keep P476_1 K485 (ninS (Ne.symm ne480) (ninS (Ne.symm ne486) nin0)))
        have c499 : Fld Z T485.heap b465 "com/example/opacheck/opacheck/PrecedenceTraversal" "positions" "[I" (.ref vp_467) := (Fld.keep P476_3 K485 (ninS (Ne.symm ne480) (ninS (Ne.symm ne486) nin0)))
        refine Go.callV (y := (⟨"com/example/opacheck/opacheck/PrecedenceTraversal", "restart", "(Ljava/util/function/IntPredicate;)V"⟩ : MethodName)) (z := (⟨"com/example/opacheck/opacheck/PrecedenceTraversal", "restart", "(Ljava/util/function/IntPredicate;)V"⟩ : MethodName)) (a := b465) (pc' := 160) C X489 (hw _ (List.mem_of_getElem? (i := 59) rfl)) (hw _ (List.mem_of_getElem? (i := 60) rfl)) (notFace_at C.2.1 (hw _ (List.mem_of_getElem? (i := 62) rfl))) (hw _ (List.mem_of_getElem? (i := 62) rfl)) (hw _ (List.mem_of_getElem? (i := 61) rfl)) c493 (by decide) (rm_rst l Z a0 hw b465 (((0 : Int32) + (1 : Int32))) vi_467 vp_467 T485.heap O492 c493 c490 c498 c491 c499 n_b465) (hw _ (List.mem_of_getElem? (i := 63) rfl)) (hw _ (List.mem_of_getElem? (i := 19) rfl)) e489 (argsL := [.null]) (rest := []) (W := 0) rfl rfl pd_4 rfl (Nat.le_of_eq rfl) rfl (by decide) (by decide) (by decide) (by decide) at_157 rfl ?_
        intro T497 v497 L497 X497 q497
        obtain ⟨rfl, N497q, K497, P497_0, P497_1, P497_2, P497_3⟩ := q497
        have N497 := Fr.app N489 N497q
        refine Go.aload (pc' := 162) C X497 at_160 rfl rfl rfl ?_
        refine Go.iload (pc' := 164) C X497 at_162 rfl rfl ?_
        have c501 : AL Z T497.heap vi_467 ki_467 .int ((List.replicate cnt.toNatClampNeg (.int 0)).set u.toNatClampNeg (.int ((0 : Int32) + (1 : Int32)))) := (AL.keep P485_0 K497 (ninS ne480 nin0))
        have O502 : Ext Z.heap T497.heap := (Ext.keep O492 K497 (allS n_b465 all0))
        have c503 : Exa Z T497.heap b465 "com/example/opacheck/opacheck/PrecedenceTraversal" := (Exa.keep c493 K497)
        refine Go.callV (y := (⟨"com/example/opacheck/opacheck/PrecedenceTraversal", "visited", "(I)Z"⟩ : MethodName)) (z := (⟨"com/example/opacheck/opacheck/PrecedenceTraversal", "visited", "(I)Z"⟩ : MethodName)) (a := b465) (pc' := 167) C X497 (hw _ (List.mem_of_getElem? (i := 68) rfl)) (hw _ (List.mem_of_getElem? (i := 69) rfl)) (notFace_at C.2.1 (hw _ (List.mem_of_getElem? (i := 71) rfl))) (hw _ (List.mem_of_getElem? (i := 71) rfl)) (hw _ (List.mem_of_getElem? (i := 70) rfl)) c503 (by decide) (rm_vdF l Z a0 hw b465 t ((((0 : Int32) + (1 : Int32)) + (1 : Int32))) vi_467 ki_467 (((List.replicate cnt.toNatClampNeg (.int 0)).set u.toNatClampNeg (.int ((0 : Int32) + (1 : Int32))))) ((0 : Int32)) T497.heap O502 P497_0 P497_2 c501 get (own_miss get geu htu (own_at _ _ ltt)) (by decide)) (hw _ (List.mem_of_getElem? (i := 72) rfl)) (hw _ (List.mem_of_getElem? (i := 19) rfl)) rfl (argsL := [(.int t)]) (rest := []) (W := 0) rfl rfl pd_5 rfl (Nat.le_of_eq rfl) rfl (by decide) (by decide) (by decide) (by decide) at_164 rfl ?_
        intro T500 v500 L500 X500 q500
        obtain ⟨rfl, rfl, e500⟩ := q500
        have N500 := Fr.app N497 (Fr.nil _)
        refine Go.ifNo (pc' := 170) C X500 at_167 ((if0 _ _).trans (teq (x := (0 : Int32)) (y := (0 : Int32)) (by decide)).2) rfl ?_
        refine Go.iconst (z := (1 : Int32)) (pc' := 171) C X500 at_170 rfl rfl ?_
        refine Go.goto (pc' := 175) C X500 at_171 (by decide) (by decide) ?_
        refine Go.istore (Ls' := #[.val (.int p1), .val (.int p2), .val (.int p3), .val (.int p4), .val (.int p5), .val (.int cnt), .val (.int t), .val (.int u), .val (.int w), .val (.int (0 : Int32)), .val (.ref b462), .val (.ref b465), .val (.int (1 : Int32)), .val (.int (1 : Int32)), .val (.int (1 : Int32)), .unset]) (pc' := 177) C X500 at_175 rfl rfl ?_
        refine Go.aload (pc' := 179) C X500 at_177 rfl rfl rfl ?_
        refine Go.iload (pc' := 181) C X500 at_179 rfl rfl ?_
        have c506 : AL Z T497.heap vp_467 kp_467 .int ((List.replicate cnt.toNatClampNeg (.int 0)).set u.toNatClampNeg (.int (0 : Int32))) := (AL.keep P485_1 K497 (ninS ne486 nin0))
        refine Go.callV (y := (⟨"com/example/opacheck/opacheck/PrecedenceTraversal", "visit", "(I)V"⟩ : MethodName)) (z := (⟨"com/example/opacheck/opacheck/PrecedenceTraversal", "visit", "(I)V"⟩ : MethodName)) (a := b465) (pc' := 184) C X500 (hw _ (List.mem_of_getElem? (i := 73) rfl)) (hw _ (List.mem_of_getElem? (i := 74) rfl)) (notFace_at C.2.1 (hw _ (List.mem_of_getElem? (i := 76) rfl))) (hw _ (List.mem_of_getElem? (i := 76) rfl)) (hw _ (List.mem_of_getElem? (i := 75) rfl)) c503 (by decide) (rm_vis l Z a0 hw b465 w ((((0 : Int32) + (1 : Int32)) + (1 : Int32))) vi_467 ki_467 (((List.replicate cnt.toNatClampNeg (.int 0)).set u.toNatClampNeg (.int ((0 : Int32) + (1 : Int32))))) vp_467 kp_467 (((List.replicate cnt.toNatClampNeg (.int 0)).set u.toNatClampNeg (.int (0 : Int32)))) cnt.toNatClampNeg T497.heap O502 P497_0 P497_2 c501 P497_3 c506 gew (by simp) (by simp) ltw n_vi_467 n_vp_467 p467_0 (Ne.symm ne480) (Ne.symm ne486)) (hw _ (List.mem_of_getElem? (i := 77) rfl)) (hw _ (List.mem_of_getElem? (i := 19) rfl)) e500 (argsL := [(.int w)]) (rest := []) (W := 0) rfl rfl pd_2 rfl (Nat.le_of_eq rfl) rfl (by decide) (by decide) (by decide) (by decide) at_181 rfl ?_
        intro T505 v505 L505 X505 q505
        obtain ⟨rfl, N505q, K505, P505_0, P505_1⟩ := q505
        have N505 := Fr.app N500 N505q
        refine Go.aload (pc' := 186) C X505 at_184 rfl rfl rfl ?_
        refine Go.iload (pc' := 188) C X505 at_186 rfl rfl ?_
        have c508 : Fld Z T505.heap b465 "com/example/opacheck/opacheck/PrecedenceTraversal" "number" "I" (.int (((0 : Int32) + (1 : Int32)) + (1 : Int32))) := (Fld.keep P497_0 K505 (ninS (Ne.symm ne480) (ninS (Ne.symm ne486) nin0)))
        have c509 : Fld Z T505.heap b465 "com/example/opacheck/opacheck/PrecedenceTraversal" "visitedIn" "[I" (.ref vi_467) := (Fld.keep P497_2 K505 (ninS (Ne.symm ne480) (ninS (Ne.symm ne486) nin0)))
        have O510 : Ext Z.heap T505.heap := (Ext.keep O502 K505 (allS n_vi_467 (allS n_vp_467 all0)))
        have c511 : Exa Z T505.heap b465 "com/example/opacheck/opacheck/PrecedenceTraversal" := (Exa.keep c503 K505)
        refine Go.callV (y := (⟨"com/example/opacheck/opacheck/PrecedenceTraversal", "visited", "(I)Z"⟩ : MethodName)) (z := (⟨"com/example/opacheck/opacheck/PrecedenceTraversal", "visited", "(I)Z"⟩ : MethodName)) (a := b465) (pc' := 191) C X505 (hw _ (List.mem_of_getElem? (i := 68) rfl)) (hw _ (List.mem_of_getElem? (i := 69) rfl)) (notFace_at C.2.1 (hw _ (List.mem_of_getElem? (i := 71) rfl))) (hw _ (List.mem_of_getElem? (i := 71) rfl)) (hw _ (List.mem_of_getElem? (i := 70) rfl)) c511 (by decide) (rm_vdF l Z a0 hw b465 t ((((0 : Int32) + (1 : Int32)) + (1 : Int32))) vi_467 ki_467 ((((List.replicate cnt.toNatClampNeg (.int 0)).set u.toNatClampNeg (.int ((0 : Int32) + (1 : Int32)))).set w.toNatClampNeg (.int (((0 : Int32) + (1 : Int32)) + (1 : Int32))))) ((0 : Int32)) T505.heap O510 c508 c509 P505_0 get (own_miss get gew htw (own_miss get geu htu (own_at _ _ ltt))) (by decide)) (hw _ (List.mem_of_getElem? (i := 72) rfl)) (hw _ (List.mem_of_getElem? (i := 19) rfl)) rfl (argsL := [(.int t)]) (rest := []) (W := 0) rfl rfl pd_5 rfl (Nat.le_of_eq rfl) rfl (by decide) (by decide) (by decide) (by decide) at_188 rfl ?_
        intro T507 v507 L507 X507 q507
        obtain ⟨rfl, rfl, e507⟩ := q507
        have N507 := Fr.app N505 (Fr.nil _)
        refine Go.iload (pc' := 193) C X507 at_191 rfl rfl ?_
        refine Go.iload (pc' := 195) C X507 at_193 rfl rfl ?_
        refine Go.icmpYes (pc' := 202) C X507 at_195 (feq (x := t) (y := w) htw).2 (by decide) (by decide) ?_
        refine Go.iconst (z := (0 : Int32)) (pc' := 203) C X507 at_202 rfl rfl ?_
        refine Go.icmpNo (pc' := 206) C X507 at_203 (teq (x := (0 : Int32)) (y := (0 : Int32)) (by decide)).2 rfl ?_
        refine Go.iconst (z := (1 : Int32)) (pc' := 207) C X507 at_206 rfl rfl ?_
        refine Go.goto (pc' := 211) C X507 at_207 (by decide) (by decide) ?_
        refine Go.istore (Ls' := #[.val (.int p1), .val (.int p2), .val (.int p3), .val (.int p4), .val (.int p5), .val (.int cnt), .val (.int t), .val (.int u), .val (.int w), .val (.int (0 : Int32)), .val (.ref b462), .val (.ref b465), .val (.int (1 : Int32)), .val (.int (1 : Int32)), .val (.int (1 : Int32)), .val (.int (1 : Int32))]) (pc' := 213) C X507 at_211 rfl rfl ?_
        refine Go.iload (pc' := 215) C X507 at_213 rfl rfl ?_
        refine Go.ifNo (pc' := 218) C X507 at_215 ((if0 _ _).trans (feq (x := (1 : Int32)) (y := (0 : Int32)) (by decide)).1) rfl ?_
        refine Go.iload (pc' := 220) C X507 at_218 rfl rfl ?_
        refine Go.ifNo (pc' := 223) C X507 at_220 ((if0 _ _).trans (feq (x := (1 : Int32)) (y := (0 : Int32)) (by decide)).1) rfl ?_
        refine Go.iload (pc' := 225) C X507 at_223 rfl rfl ?_
        refine Go.ifNo (pc' := 228) C X507 at_225 ((if0 _ _).trans (feq (x := (1 : Int32)) (y := (0 : Int32)) (by decide)).1) rfl ?_
        refine Go.iload (pc' := 230) C X507 at_228 rfl rfl ?_
        refine Go.ifNo (pc' := 233) C X507 at_230 ((if0 _ _).trans (feq (x := (1 : Int32)) (y := (0 : Int32)) (by decide)).1) rfl ?_
        refine Go.iconst (z := (1 : Int32)) (pc' := 234) C X507 at_233 rfl rfl ?_
        refine Go.goto (pc' := 238) C X507 at_234 (by decide) (by decide) ?_
        have K518 : Keep h0 T505.heap [] := (((((((((Keep.refl h0 []).ext E462).trans K463 (allS (Or.inr z_b462) all0)).ext E465).trans K467 (allS (Or.inr z_b465) all0)).trans K476 (allS (Or.inr z_b465) all0)).trans K485 (allS (Or.inr z_vi_467) (allS (Or.inr z_vp_467) all0))).trans K497 (allS (Or.inr z_b465) all0)).trans K505 (allS (Or.inr z_vi_467) (allS (Or.inr z_vp_467) all0)))
        exact Go.retN C X507 rfl at_238 (by simp) (by rw [e507]; exact ⟨rfl, N507, K518⟩) (by decide) (by decide)
      · refine Go.ifNo (pc' := 42) C X0 at_39 ((if0 _ _).trans (feq (x := (p5 &&& (1 : Int32))) (y := (0 : Int32)) hc39_461).1) rfl ?_
        refine Go.iconst (z := (1 : Int32)) (pc' := 43) C X0 at_42 rfl rfl ?_
        refine Go.goto (pc' := 47) C X0 at_43 (by decide) (by decide) ?_
        refine Go.istore (Ls' := #[.val (.int p1), .val (.int p2), .val (.int p3), .val (.int p4), .val (.int p5), .val (.int cnt), .val (.int t), .val (.int u), .val (.int w), .val (.int (1 : Int32)), .unset, .unset, .unset, .unset, .unset, .unset]) (pc' := 49) C X0 at_47 rfl rfl ?_
        refine Go.newO (pc' := 52) C X0 (hw _ (List.mem_of_getElem? (i := 1) rfl)) (hw _ (List.mem_of_getElem? (i := 2) rfl)) (hw _ (List.mem_of_getElem? (i := 3) rfl)) e0 (by decide) (by decide) at_49 rfl ?_
        intro T519 h519 b519 X519 e519 g519 E519 A519 D519
        have n_b519 : Z.heap.size ≤ b519 := Nat.le_trans O0.1 (Nat.le_of_eq g519.symm)
        have z_b519 : h0.size ≤ b519 := Nat.le_trans (Nat.le_refl _) (Nat.le_of_eq g519.symm)
        have F519_members : Fld Z h519 b519 "com/example/opacheck/opacheck/PrecedenceTraversal$Neighbours" "members" "[I" .null := D519 (Or.inl (hw _ (List.mem_of_getElem? (i := 12) rfl))) (ty := (.array .int)) (by decide)
        have F519_ranges : Fld Z h519 b519 "com/example/opacheck/opacheck/PrecedenceTraversal$Neighbours" "ranges" "[I" .null := D519 (Or.inl (hw _ (List.mem_of_getElem? (i := 14) rfl))) (ty := (.array .int)) (by decide)
        have F519_count : Fld Z h519 b519 "com/example/opacheck/opacheck/PrecedenceTraversal$Neighbours" "count" "I" (.int (0 : Int32)) := D519 (Or.inr (hw _ (List.mem_of_getElem? (i := 16) rfl))) (ty := .int) (by decide)
        have F519_size : Fld Z h519 b519 "com/example/opacheck/opacheck/PrecedenceTraversal$Neighbours" "size" "I" (.int (0 : Int32)) := D519 (Or.inl (hw _ (List.mem_of_getElem? (i := 27) rfl))) (ty := .int) (by decide)
        have F519_rangesSize : Fld Z h519 b519 "com/example/opacheck/opacheck/PrecedenceTraversal$Neighbours" "rangesSize" "I" (.int (0 : Int32)) := D519 (Or.inl (hw _ (List.mem_of_getElem? (i := 43) rfl))) (ty := .int) (by decide)
        refine Go.dup (pc' := 53) C X519 at_52 rfl rfl ?_
        refine Go.iload (pc' := 55) C X519 at_53 rfl rfl ?_
        have O521 : Ext Z.heap h519 := (Ext.trans O0 E519)
        refine Go.callI (y := (⟨"com/example/opacheck/opacheck/PrecedenceTraversal$Neighbours", "<init>", "(I)V"⟩ : MethodName)) (a := b519) (pc' := 58) C X519 rfl (hw _ (List.mem_of_getElem? (i := 4) rfl)) (hw _ (List.mem_of_getElem? (i := 5) rfl)) (by decide) (rm_nb l Z a0 hw b519 cnt h519 O521 A519 F519_members F519_ranges F519_count F519_size F519_rangesSize n_b519) (hw _ (List.mem_of_getElem? (i := 6) rfl)) (hw _ (List.mem_of_getElem? (i := 3) rfl)) e519 (argsL := [(.int cnt)]) (rest := [(.ref b519)]) (W := 1) rfl rfl pd_2 rfl (Nat.le_of_eq rfl) rfl (by decide) (by decide) (by decide) (by decide) rfl at_55 rfl ?_
        intro T520 v520 L520 X520 q520
        obtain ⟨v_520, k_520, rfl, N520q, K520, B520_0, P520_0, P520_1, P520_2, P520_3, P520_4⟩ := q520
        have N520 := Fr.app N0 N520q
        have n_v_520 : Z.heap.size ≤ v_520 := Nat.le_trans O521.1 B520_0
        have z_v_520 : h0.size ≤ v_520 := Nat.le_trans (Nat.le_trans (Nat.le_refl _) E519.1) B520_0
        refine Go.astore (Ls' := #[.val (.int p1), .val (.int p2), .val (.int p3), .val (.int p4), .val (.int p5), .val (.int cnt), .val (.int t), .val (.int u), .val (.int w), .val (.int (1 : Int32)), .val (.ref b519), .unset, .unset, .unset, .unset, .unset]) (pc' := 60) C X520 at_58 rfl rfl rfl ?_
        have O523 : Ext Z.heap T520.heap := (Ext.keep O521 K520 (allS n_b519 all0))
        refine Go.newO (pc' := 63) C X520 (hw _ (List.mem_of_getElem? (i := 17) rfl)) (hw _ (List.mem_of_getElem? (i := 18) rfl)) (hw _ (List.mem_of_getElem? (i := 19) rfl)) rfl (by decide) (by decide) at_60 rfl ?_
        intro T522 h522 b522 X522 e522 g522 E522 A522 D522
        have n_b522 : Z.heap.size ≤ b522 := Nat.le_trans O523.1 (Nat.le_of_eq g522.symm)
        have z_b522 : h0.size ≤ b522 := Nat.le_trans (Nat.le_trans (Nat.le_trans (Nat.le_refl _) E519.1) K520.1) (Nat.le_of_eq g522.symm)
        have F522_members : Fld Z h522 b522 "com/example/opacheck/opacheck/PrecedenceTraversal" "members" "[I" .null := D522 (Or.inr (hw _ (List.mem_of_getElem? (i := 41) rfl))) (ty := (.array .int)) (by decide)
        have F522_ranges : Fld Z h522 b522 "com/example/opacheck/opacheck/PrecedenceTraversal" "ranges" "[[I" .null := D522 (Or.inr (hw _ (List.mem_of_getElem? (i := 47) rfl))) (ty := (.array (.array .int))) (by decide)
        have F522_visitedIn : Fld Z h522 b522 "com/example/opacheck/opacheck/PrecedenceTraversal" "visitedIn" "[I" .null := D522 (Or.inr (hw _ (List.mem_of_getElem? (i := 50) rfl))) (ty := (.array .int)) (by decide)
        have F522_positions : Fld Z h522 b522 "com/example/opacheck/opacheck/PrecedenceTraversal" "positions" "[I" .null := D522 (Or.inr (hw _ (List.mem_of_getElem? (i := 52) rfl))) (ty := (.array .int)) (by decide)
        have F522_links : Fld Z h522 b522 "com/example/opacheck/opacheck/PrecedenceTraversal" "links" "[I" .null := D522 (Or.inr (hw _ (List.mem_of_getElem? (i := 54) rfl))) (ty := (.array .int)) (by decide)
        have F522_linkedIn : Fld Z h522 b522 "com/example/opacheck/opacheck/PrecedenceTraversal" "linkedIn" "[I" .null := D522 (Or.inr (hw _ (List.mem_of_getElem? (i := 56) rfl))) (ty := (.array .int)) (by decide)
        have F522_path : Fld Z h522 b522 "com/example/opacheck/opacheck/PrecedenceTraversal" "path" "[I" .null := D522 (Or.inr (hw _ (List.mem_of_getElem? (i := 58) rfl))) (ty := (.array .int)) (by decide)
        have F522_number : Fld Z h522 b522 "com/example/opacheck/opacheck/PrecedenceTraversal" "number" "I" (.int (0 : Int32)) := D522 (Or.inl (hw _ (List.mem_of_getElem? (i := 65) rfl))) (ty := .int) (by decide)
        have F522_scope : Fld Z h522 b522 "com/example/opacheck/opacheck/PrecedenceTraversal" "scope" "Ljava/util/function/IntPredicate;" .null := D522 (Or.inl (hw _ (List.mem_of_getElem? (i := 67) rfl))) (ty := (.object "java/util/function/IntPredicate")) (by decide)
        refine Go.dup (pc' := 64) C X522 at_63 rfl rfl ?_
        refine Go.aload (pc' := 66) C X522 at_64 rfl rfl rfl ?_
        have c525 : Fld Z h522 b519 "com/example/opacheck/opacheck/PrecedenceTraversal$Neighbours" "members" "[I" (.ref v_520) := (Fld.ext E522 P520_0)
        have c526 : AL Z h522 v_520 k_520 .int [(.int (0 : Int32)), (.int (0 : Int32)), (.int (0 : Int32)), (.int (0 : Int32)), (.int (0 : Int32)), (.int (0 : Int32)), (.int (0 : Int32)), (.int (0 : Int32)), (.int (0 : Int32)), (.int (0 : Int32)), (.int (0 : Int32)), (.int (0 : Int32)), (.int (0 : Int32)), (.int (0 : Int32)), (.int (0 : Int32)), (.int (0 : Int32))] := (AL.ext E522 P520_1)
        have c527 : Fld Z h522 b519 "com/example/opacheck/opacheck/PrecedenceTraversal$Neighbours" "size" "I" (.int (0 : Int32)) := (Fld.ext E522 P520_3)
        have c528 : Fld Z h522 b519 "com/example/opacheck/opacheck/PrecedenceTraversal$Neighbours" "rangesSize" "I" (.int (0 : Int32)) := (Fld.ext E522 P520_4)
        have c529 : Fld Z h522 b519 "com/example/opacheck/opacheck/PrecedenceTraversal$Neighbours" "count" "I" (.int cnt) := (Fld.ext E522 P520_2)
        have ne530 : b522 ≠ b519 := (Nat.ne_of_gt (Nat.lt_of_lt_of_le A519.lt (Nat.le_trans (Nat.le_trans (Nat.le_refl _) K520.1) (Nat.le_of_eq g522.symm))))
        have ne531 : b522 ≠ v_520 := (Nat.ne_of_gt (Nat.lt_of_lt_of_le P520_1.lt (Nat.le_trans (Nat.le_refl _) (Nat.le_of_eq g522.symm))))
        have O532 : Ext Z.heap h522 := (Ext.trans O523 E522)
        refine Go.callI (y := (⟨"com/example/opacheck/opacheck/PrecedenceTraversal", "<init>", "(Lcom/example/opacheck/opacheck/PrecedenceTraversal$Neighbours;)V"⟩ : MethodName)) (a := b522) (pc' := 69) C X522 rfl (hw _ (List.mem_of_getElem? (i := 20) rfl)) (hw _ (List.mem_of_getElem? (i := 21) rfl)) (by decide) (rm_ctg l Z a0 hw b522 b519 v_520 k_520 cnt h522 O532 A522 F522_members F522_ranges F522_visitedIn F522_positions F522_links F522_linkedIn F522_path F522_number F522_scope c525 c526 c527 c528 c529 n_b522 ne530 ne531 hcnt) (hw _ (List.mem_of_getElem? (i := 22) rfl)) (hw _ (List.mem_of_getElem? (i := 19) rfl)) e522 (argsL := [(.ref b519)]) (rest := [(.ref b522)]) (W := 1) rfl rfl pd_3 rfl (Nat.le_of_eq rfl) rfl (by decide) (by decide) (by decide) (by decide) rfl at_66 rfl ?_
        intro T524 v524 L524 X524 q524
        obtain ⟨vi_524, ki_524, vp_524, kp_524, rfl, N524q, K524, B524_0, B524_1, P524_0, P524_1, P524_2, P524_3, P524_4, P524_5, p524_0⟩ := q524
        have N524 := Fr.app N520 N524q
        have n_vi_524 : Z.heap.size ≤ vi_524 := Nat.le_trans O532.1 B524_0
        have z_vi_524 : h0.size ≤ vi_524 := Nat.le_trans (Nat.le_trans (Nat.le_trans (Nat.le_trans (Nat.le_refl _) E519.1) K520.1) E522.1) B524_0
        have n_vp_524 : Z.heap.size ≤ vp_524 := Nat.le_trans O532.1 B524_1
        have z_vp_524 : h0.size ≤ vp_524 := Nat.le_trans (Nat.le_trans (Nat.le_trans (Nat.le_trans (Nat.le_refl _) E519.1) K520.1) E522.1) B524_1
        refine Go.astore (Ls' := #[.val (.int p1), .val (.int p2), .val (.int p3), .val (.int p4), .val (.int p5), .val (.int cnt), .val (.int t), .val (.int u), .val (.int w), .val (.int (1 : Int32)), .val (.ref b519), .val (.ref b522), .unset, .unset, .unset, .unset]) (pc' := 71) C X524 at_69 rfl rfl rfl ?_
        refine Go.aload (pc' := 73) C X524 at_71 rfl rfl rfl ?_
        refine Go.aconstNull (pc' := 74) C X524 at_73 rfl ?_
        have c534 : Exa Z T524.heap b522 "com/example/opacheck/opacheck/PrecedenceTraversal" := (Exa.keep A522 K524)
        have O535 : Ext Z.heap T524.heap := (Ext.keep O532 K524 (allS n_b522 all0))
        refine Go.callV (y := (⟨"com/example/opacheck/opacheck/PrecedenceTraversal", "restart", "(Ljava/util/function/IntPredicate;)V"⟩ : MethodName)) (z := (⟨"com/example/opacheck/opacheck/PrecedenceTraversal", "restart", "(Ljava/util/function/IntPredicate;)V"⟩ : MethodName)) (a := b522) (pc' := 77) C X524 (hw _ (List.mem_of_getElem? (i := 59) rfl)) (hw _ (List.mem_of_getElem? (i := 60) rfl)) (notFace_at C.2.1 (hw _ (List.mem_of_getElem? (i := 62) rfl))) (hw _ (List.mem_of_getElem? (i := 62) rfl)) (hw _ (List.mem_of_getElem? (i := 61) rfl)) c534 (by decide) (rm_rst l Z a0 hw b522 ((0 : Int32)) vi_524 vp_524 T524.heap O535 c534 P524_4 P524_5 P524_0 P524_2 n_b522) (hw _ (List.mem_of_getElem? (i := 63) rfl)) (hw _ (List.mem_of_getElem? (i := 19) rfl)) rfl (argsL := [.null]) (rest := []) (W := 0) rfl rfl pd_4 rfl (Nat.le_of_eq rfl) rfl (by decide) (by decide) (by decide) (by decide) at_74 rfl ?_
        intro T533 v533 L533 X533 q533
        obtain ⟨rfl, N533q, K533, P533_0, P533_1, P533_2, P533_3⟩ := q533
        have N533 := Fr.app N524 N533q
        refine Go.aload (pc' := 79) C X533 at_77 rfl rfl rfl ?_
        refine Go.iload (pc' := 81) C X533 at_79 rfl rfl ?_
        have ne537 : vi_524 ≠ b522 := (Nat.ne_of_gt (Nat.lt_of_lt_of_le A522.lt (Nat.le_trans (Nat.le_refl _) B524_0)))
        have c538 : AL Z T533.heap vi_524 ki_524 .int (List.replicate cnt.toNatClampNeg (.int 0)) := (AL.keep P524_1 K533 (ninS ne537 nin0))
        have O539 : Ext Z.heap T533.heap := (Ext.keep O535 K533 (allS n_b522 all0))
        have c540 : Exa Z T533.heap b522 "com/example/opacheck/opacheck/PrecedenceTraversal" := (Exa.keep c534 K533)
        refine Go.callV (y := (⟨"com/example/opacheck/opacheck/PrecedenceTraversal", "visited", "(I)Z"⟩ : MethodName)) (z := (⟨"com/example/opacheck/opacheck/PrecedenceTraversal", "visited", "(I)Z"⟩ : MethodName)) (a := b522) (pc' := 84) C X533 (hw _ (List.mem_of_getElem? (i := 68) rfl)) (hw _ (List.mem_of_getElem? (i := 69) rfl)) (notFace_at C.2.1 (hw _ (List.mem_of_getElem? (i := 71) rfl))) (hw _ (List.mem_of_getElem? (i := 71) rfl)) (hw _ (List.mem_of_getElem? (i := 70) rfl)) c540 (by decide) (rm_vdF l Z a0 hw b522 t (((0 : Int32) + (1 : Int32))) vi_524 ki_524 ((List.replicate cnt.toNatClampNeg (.int 0))) ((0 : Int32)) T533.heap O539 P533_0 P533_2 c538 get (own_at _ _ ltt) (by decide)) (hw _ (List.mem_of_getElem? (i := 72) rfl)) (hw _ (List.mem_of_getElem? (i := 19) rfl)) rfl (argsL := [(.int t)]) (rest := []) (W := 0) rfl rfl pd_5 rfl (Nat.le_of_eq rfl) rfl (by decide) (by decide) (by decide) (by decide) at_81 rfl ?_
        intro T536 v536 L536 X536 q536
        obtain ⟨rfl, rfl, e536⟩ := q536
        have N536 := Fr.app N533 (Fr.nil _)
        refine Go.ifNo (pc' := 87) C X536 at_84 ((if0 _ _).trans (teq (x := (0 : Int32)) (y := (0 : Int32)) (by decide)).2) rfl ?_
        refine Go.iconst (z := (1 : Int32)) (pc' := 88) C X536 at_87 rfl rfl ?_
        refine Go.goto (pc' := 92) C X536 at_88 (by decide) (by decide) ?_
        refine Go.istore (Ls' := #[.val (.int p1), .val (.int p2), .val (.int p3), .val (.int p4), .val (.int p5), .val (.int cnt), .val (.int t), .val (.int u), .val (.int w), .val (.int (1 : Int32)), .val (.ref b519), .val (.ref b522), .val (.int (1 : Int32)), .unset, .unset, .unset]) (pc' := 94) C X536 at_92 rfl rfl ?_
        refine Go.aload (pc' := 96) C X536 at_94 rfl rfl rfl ?_
        refine Go.iload (pc' := 98) C X536 at_96 rfl rfl ?_
        have ne543 : vp_524 ≠ b522 := (Nat.ne_of_gt (Nat.lt_of_lt_of_le A522.lt (Nat.le_trans (Nat.le_refl _) B524_1)))
        have c544 : AL Z T533.heap vp_524 kp_524 .int (List.replicate cnt.toNatClampNeg (.int 0)) := (AL.keep P524_3 K533 (ninS ne543 nin0))
        refine Go.callV (y := (⟨"com/example/opacheck/opacheck/PrecedenceTraversal", "visit", "(I)V"⟩ : MethodName)) (z := (⟨"com/example/opacheck/opacheck/PrecedenceTraversal", "visit", "(I)V"⟩ : MethodName)) (a := b522) (pc' := 101) C X536 (hw _ (List.mem_of_getElem? (i := 73) rfl)) (hw _ (List.mem_of_getElem? (i := 74) rfl)) (notFace_at C.2.1 (hw _ (List.mem_of_getElem? (i := 76) rfl))) (hw _ (List.mem_of_getElem? (i := 76) rfl)) (hw _ (List.mem_of_getElem? (i := 75) rfl)) c540 (by decide) (rm_vis l Z a0 hw b522 u (((0 : Int32) + (1 : Int32))) vi_524 ki_524 ((List.replicate cnt.toNatClampNeg (.int 0))) vp_524 kp_524 ((List.replicate cnt.toNatClampNeg (.int 0))) cnt.toNatClampNeg T533.heap O539 P533_0 P533_2 c538 P533_3 c544 geu (by simp) (by simp) ltu n_vi_524 n_vp_524 p524_0 (Ne.symm ne537) (Ne.symm ne543)) (hw _ (List.mem_of_getElem? (i := 77) rfl)) (hw _ (List.mem_of_getElem? (i := 19) rfl)) e536 (argsL := [(.int u)]) (rest := []) (W := 0) rfl rfl pd_2 rfl (Nat.le_of_eq rfl) rfl (by decide) (by decide) (by decide) (by decide) at_98 rfl ?_
        intro T542 v542 L542 X542 q542
        obtain ⟨rfl, N542q, K542, P542_0, P542_1⟩ := q542
        have N542 := Fr.app N536 N542q
        refine Go.iload (pc' := 103) C X542 at_101 rfl rfl ?_
        refine Go.ifNo (pc' := 106) C X542 at_103 ((if0 _ _).trans (feq (x := (1 : Int32)) (y := (0 : Int32)) (by decide)).1) rfl ?_
        refine Go.aload (pc' := 108) C X542 at_106 rfl rfl rfl ?_
        refine Go.iload (pc' := 110) C X542 at_108 rfl rfl ?_
        have c547 : Fld Z T542.heap b522 "com/example/opacheck/opacheck/PrecedenceTraversal" "number" "I" (.int ((0 : Int32) + (1 : Int32))) := (Fld.keep P533_0 K542 (ninS (Ne.symm ne537) (ninS (Ne.symm ne543) nin0)))
        have c548 : Fld Z T542.heap b522 "com/example/opacheck/opacheck/PrecedenceTraversal" "visitedIn" "[I" (.ref vi_524) := (Fld.keep P533_2 K542 (ninS (Ne.symm ne537) (ninS (Ne.symm ne543) nin0)))
        have c549 : Fld Z T542.heap b522 "com/example/opacheck/opacheck/PrecedenceTraversal" "positions" "[I" (.ref vp_524) := (Fld.keep P533_3 K542 (ninS (Ne.symm ne537) (ninS (Ne.symm ne543) nin0)))
        have O550 : Ext Z.heap T542.heap := (Ext.keep O539 K542 (allS n_vi_524 (allS n_vp_524 all0)))
        have c551 : Exa Z T542.heap b522 "com/example/opacheck/opacheck/PrecedenceTraversal" := (Exa.keep c540 K542)
        refine Go.callV (y := (⟨"com/example/opacheck/opacheck/PrecedenceTraversal", "visit", "(I)V"⟩ : MethodName)) (z := (⟨"com/example/opacheck/opacheck/PrecedenceTraversal", "visit", "(I)V"⟩ : MethodName)) (a := b522) (pc' := 113) C X542 (hw _ (List.mem_of_getElem? (i := 73) rfl)) (hw _ (List.mem_of_getElem? (i := 74) rfl)) (notFace_at C.2.1 (hw _ (List.mem_of_getElem? (i := 76) rfl))) (hw _ (List.mem_of_getElem? (i := 76) rfl)) (hw _ (List.mem_of_getElem? (i := 75) rfl)) c551 (by decide) (rm_vis l Z a0 hw b522 w (((0 : Int32) + (1 : Int32))) vi_524 ki_524 (((List.replicate cnt.toNatClampNeg (.int 0)).set u.toNatClampNeg (.int ((0 : Int32) + (1 : Int32))))) vp_524 kp_524 (((List.replicate cnt.toNatClampNeg (.int 0)).set u.toNatClampNeg (.int (0 : Int32)))) cnt.toNatClampNeg T542.heap O550 c547 c548 P542_0 c549 P542_1 gew (by simp) (by simp) ltw n_vi_524 n_vp_524 p524_0 (Ne.symm ne537) (Ne.symm ne543)) (hw _ (List.mem_of_getElem? (i := 77) rfl)) (hw _ (List.mem_of_getElem? (i := 19) rfl)) rfl (argsL := [(.int w)]) (rest := []) (W := 0) rfl rfl pd_2 rfl (Nat.le_of_eq rfl) rfl (by decide) (by decide) (by decide) (by decide) at_110 rfl ?_
        intro T546 v546 L546 X546 q546
        obtain ⟨rfl, N546q, K546, P546_0, P546_1⟩ := q546
        have N546 := Fr.app N542 N546q
        refine Go.aload (pc' := 115) C X546 at_113 rfl rfl rfl ?_
        refine Go.iload (pc' := 117) C X546 at_115 rfl rfl ?_
        have c553 : Fld Z T546.heap b522 "com/example/opacheck/opacheck/PrecedenceTraversal" "number" "I" (.int ((0 : Int32) + (1 : Int32))) := (Fld.keep c547 K546 (ninS (Ne.symm ne537) (ninS (Ne.symm ne543) nin0)))
        have c554 : Fld Z T546.heap b522 "com/example/opacheck/opacheck/PrecedenceTraversal" "visitedIn" "[I" (.ref vi_524) := (Fld.keep c548 K546 (ninS (Ne.symm ne537) (ninS (Ne.symm ne543) nin0)))
        have O555 : Ext Z.heap T546.heap := (Ext.keep O550 K546 (allS n_vi_524 (allS n_vp_524 all0)))
        have c556 : Exa Z T546.heap b522 "com/example/opacheck/opacheck/PrecedenceTraversal" := (Exa.keep c551 K546)
        refine Go.callV (y := (⟨"com/example/opacheck/opacheck/PrecedenceTraversal", "visited", "(I)Z"⟩ : MethodName)) (z := (⟨"com/example/opacheck/opacheck/PrecedenceTraversal", "visited", "(I)Z"⟩ : MethodName)) (a := b522) (pc' := 120) C X546 (hw _ (List.mem_of_getElem? (i := 68) rfl)) (hw _ (List.mem_of_getElem? (i := 69) rfl)) (notFace_at C.2.1 (hw _ (List.mem_of_getElem? (i := 71) rfl))) (hw _ (List.mem_of_getElem? (i := 71) rfl)) (hw _ (List.mem_of_getElem? (i := 70) rfl)) c556 (by decide) (rm_vdF l Z a0 hw b522 t (((0 : Int32) + (1 : Int32))) vi_524 ki_524 ((((List.replicate cnt.toNatClampNeg (.int 0)).set u.toNatClampNeg (.int ((0 : Int32) + (1 : Int32)))).set w.toNatClampNeg (.int ((0 : Int32) + (1 : Int32))))) ((0 : Int32)) T546.heap O555 c553 c554 P546_0 get (own_miss get gew htw (own_miss get geu htu (own_at _ _ ltt))) (by decide)) (hw _ (List.mem_of_getElem? (i := 72) rfl)) (hw _ (List.mem_of_getElem? (i := 19) rfl)) rfl (argsL := [(.int t)]) (rest := []) (W := 0) rfl rfl pd_5 rfl (Nat.le_of_eq rfl) rfl (by decide) (by decide) (by decide) (by decide) at_117 rfl ?_
        intro T552 v552 L552 X552 q552
        obtain ⟨rfl, rfl, e552⟩ := q552
        have N552 := Fr.app N546 (Fr.nil _)
        refine Go.iload (pc' := 122) C X552 at_120 rfl rfl ?_
        refine Go.iload (pc' := 124) C X552 at_122 rfl rfl ?_
        refine Go.icmpNo (pc' := 127) C X552 at_124 (feq (x := t) (y := u) htu).1 rfl ?_
        refine Go.iload (pc' := 129) C X552 at_127 rfl rfl ?_
        refine Go.ifNo (pc' := 132) C X552 at_129 ((if0 _ _).trans (feq (x := (1 : Int32)) (y := (0 : Int32)) (by decide)).1) rfl ?_
        refine Go.iload (pc' := 134) C X552 at_132 rfl rfl ?_
        refine Go.iload (pc' := 136) C X552 at_134 rfl rfl ?_
        refine Go.icmpYes (pc' := 143) C X552 at_136 (feq (x := t) (y := w) htw).2 (by decide) (by decide) ?_
        refine Go.iconst (z := (0 : Int32)) (pc' := 144) C X552 at_143 rfl rfl ?_
        refine Go.icmpNo (pc' := 147) C X552 at_144 (teq (x := (0 : Int32)) (y := (0 : Int32)) (by decide)).2 rfl ?_
        refine Go.iconst (z := (1 : Int32)) (pc' := 148) C X552 at_147 rfl rfl ?_
        refine Go.goto (pc' := 152) C X552 at_148 (by decide) (by decide) ?_
        refine Go.istore (Ls' := #[.val (.int p1), .val (.int p2), .val (.int p3), .val (.int p4), .val (.int p5), .val (.int cnt), .val (.int t), .val (.int u), .val (.int w), .val (.int (1 : Int32)), .val (.ref b519), .val (.ref b522), .val (.int (1 : Int32)), .val (.int (1 : Int32)), .unset, .unset]) (pc' := 154) C X552 at_152 rfl rfl ?_
        refine Go.aload (pc' := 156) C X552 at_154 rfl rfl rfl ?_
        refine Go.aconstNull (pc' := 157) C X552 at_156 rfl ?_
        have c562 : Fld Z T546.heap b522 "com/example/opacheck/opacheck/PrecedenceTraversal" "scope" "Ljava/util/function/IntPredicate;" .null := (Fld.keep (Fld.keep P533_1 K542 (ninS (Ne.symm ne537) (ninS (Ne.symm ne543) nin0))) K546 (ninS (Ne.symm ne537) (ninS (Ne.symm ne543) nin0)))
        have c563 : Fld Z T546.heap b522 "com/example/opacheck/opacheck/PrecedenceTraversal" "positions" "[I" (.ref vp_524) := (Fld.keep c549 K546 (ninS (Ne.symm ne537) (ninS (Ne.symm ne543) nin0)))
        refine Go.callV (y := (⟨"com/example/opacheck/opacheck/PrecedenceTraversal", "restart", "(Ljava/util/function/IntPredicate;)V"⟩ : MethodName)) (z := (⟨"com/example/opacheck/opacheck/PrecedenceTraversal", "restart", "(Ljava/util/function/IntPredicate;)V"⟩ : MethodName)) (a := b522) (pc' := 160) C X552 (hw _ (List.mem_of_getElem? (i := 59) rfl)) (hw _ (List.mem_of_getElem? (i := 60) rfl)) (notFace_at C.2.1 (hw _ (List.mem_of_getElem? (i := 62) rfl))) (hw _ (List.mem_of_getElem? (i := 62) rfl)) (hw _ (List.mem_of_getElem? (i := 61) rfl)) c556 (by decide) (rm_rst l Z a0 hw b522 (((0 : Int32) + (1 : Int32))) vi_524 vp_524 T546.heap O555 c556 c553 c562 c554 c563 n_b522) (hw _ (List.mem_of_getElem? (i := 63) rfl)) (hw _ (List.mem_of_getElem? (i := 19) rfl)) e552 (argsL := [.null]) (rest := []) (W := 0) rfl rfl pd_4 rfl (Nat.le_of_eq rfl) rfl (by decide) (by decide) (by decide) (by decide) at_157 rfl ?_
        intro T561 v561 L561 X561 q561
        obtain ⟨rfl, N561q, K561, P561_0, P561_1, P561_2, P561_3⟩ := q561
        have N561 := Fr.app N552 N561q
        refine Go.aload (pc' := 162) C X561 at_160 rfl rfl rfl ?_
        refine Go.iload (pc' := 164) C X561 at_162 rfl rfl ?_
        have c565 : AL Z T561.heap vi_524 ki_524 .int (((List.replicate cnt.toNatClampNeg (.int 0)).set u.toNatClampNeg (.int ((0 : Int32) + (1 : Int32)))).set w.toNatClampNeg (.int ((0 : Int32) + (1 : Int32)))) := (AL.keep P546_0 K561 (ninS ne537 nin0))
        have O566 : Ext Z.heap T561.heap := (Ext.keep O555 K561 (allS n_b522 all0))
        have c567 : Exa Z T561.heap b522 "com/example/opacheck/opacheck/PrecedenceTraversal" := (Exa.keep c556 K561)
        refine Go.callV (y := (⟨"com/example/opacheck/opacheck/PrecedenceTraversal", "visited", "(I)Z"⟩ : MethodName)) (z := (⟨"com/example/opacheck/opacheck/PrecedenceTraversal", "visited", "(I)Z"⟩ : MethodName)) (a := b522) (pc' := 167) C X561 (hw _ (List.mem_of_getElem? (i := 68) rfl)) (hw _ (List.mem_of_getElem? (i := 69) rfl)) (notFace_at C.2.1 (hw _ (List.mem_of_getElem? (i := 71) rfl))) (hw _ (List.mem_of_getElem? (i := 71) rfl)) (hw _ (List.mem_of_getElem? (i := 70) rfl)) c567 (by decide) (rm_vdF l Z a0 hw b522 t ((((0 : Int32) + (1 : Int32)) + (1 : Int32))) vi_524 ki_524 ((((List.replicate cnt.toNatClampNeg (.int 0)).set u.toNatClampNeg (.int ((0 : Int32) + (1 : Int32)))).set w.toNatClampNeg (.int ((0 : Int32) + (1 : Int32))))) ((0 : Int32)) T561.heap O566 P561_0 P561_2 c565 get (own_miss get gew htw (own_miss get geu htu (own_at _ _ ltt))) (by decide)) (hw _ (List.mem_of_getElem? (i := 72) rfl)) (hw _ (List.mem_of_getElem? (i := 19) rfl)) rfl (argsL := [(.int t)]) (rest := []) (W := 0) rfl rfl pd_5 rfl (Nat.le_of_eq rfl) rfl (by decide) (by decide) (by decide) (by decide) at_164 rfl ?_
        intro T564 v564 L564 X564 q564
        obtain ⟨rfl, rfl, e564⟩ := q564
        have N564 := Fr.app N561 (Fr.nil _)
        refine Go.ifNo (pc' := 170) C X564 at_167 ((if0 _ _).trans (teq (x := (0 : Int32)) (y := (0 : Int32)) (by decide)).2) rfl ?_
        refine Go.iconst (z := (1 : Int32)) (pc' := 171) C X564 at_170 rfl rfl ?_
        refine Go.goto (pc' := 175) C X564 at_171 (by decide) (by decide) ?_
        refine Go.istore (Ls' := #[.val (.int p1), .val (.int p2), .val (.int p3), .val (.int p4), .val (.int p5), .val (.int cnt), .val (.int t), .val (.int u), .val (.int w), .val (.int (1 : Int32)), .val (.ref b519), .val (.ref b522), .val (.int (1 : Int32)), .val (.int (1 : Int32)), .val (.int (1 : Int32)), .unset]) (pc' := 177) C X564 at_175 rfl rfl ?_
        refine Go.aload (pc' := 179) C X564 at_177 rfl rfl rfl ?_
        refine Go.iload (pc' := 181) C X564 at_179 rfl rfl ?_
        have c570 : AL Z T561.heap vp_524 kp_524 .int (((List.replicate cnt.toNatClampNeg (.int 0)).set u.toNatClampNeg (.int (0 : Int32))).set w.toNatClampNeg (.int (0 : Int32))) := (AL.keep P546_1 K561 (ninS ne543 nin0))
        refine Go.callV (y := (⟨"com/example/opacheck/opacheck/PrecedenceTraversal", "visit", "(I)V"⟩ : MethodName)) (z := (⟨"com/example/opacheck/opacheck/PrecedenceTraversal", "visit", "(I)V"⟩ : MethodName)) (a := b522) (pc' := 184) C X564 (hw _ (List.mem_of_getElem? (i := 73) rfl)) (hw _ (List.mem_of_getElem? (i := 74) rfl)) (notFace_at C.2.1 (hw _ (List.mem_of_getElem? (i := 76) rfl))) (hw _ (List.mem_of_getElem? (i := 76) rfl)) (hw _ (List.mem_of_getElem? (i := 75) rfl)) c567 (by decide) (rm_vis l Z a0 hw b522 w ((((0 : Int32) + (1 : Int32)) + (1 : Int32))) vi_524 ki_524 ((((List.replicate cnt.toNatClampNeg (.int 0)).set u.toNatClampNeg (.int ((0 : Int32) + (1 : Int32)))).set w.toNatClampNeg (.int ((0 : Int32) + (1 : Int32))))) vp_524 kp_524 ((((List.replicate cnt.toNatClampNeg (.int 0)).set u.toNatClampNeg (.int (0 : Int32))).set w.toNatClampNeg (.int (0 : Int32)))) cnt.toNatClampNeg T561.heap O566 P561_0 P561_2 c565 P561_3 c570 gew (by simp) (by simp) ltw n_vi_524 n_vp_524 p524_0 (Ne.symm ne537) (Ne.symm ne543)) (hw _ (List.mem_of_getElem? (i := 77) rfl)) (hw _ (List.mem_of_getElem? (i := 19) rfl)) e564 (argsL := [(.int w)]) (rest := []) (W := 0) rfl rfl pd_2 rfl (Nat.le_of_eq rfl) rfl (by decide) (by decide) (by decide) (by decide) at_181 rfl ?_
        intro T569 v569 L569 X569 q569
        obtain ⟨rfl, N569q, K569, P569_0, P569_1⟩ := q569
        have N569 := Fr.app N564 N569q
        refine Go.aload (pc' := 186) C X569 at_184 rfl rfl rfl ?_
        refine Go.iload (pc' := 188) C X569 at_186 rfl rfl ?_
        have c572 : Fld Z T569.heap b522 "com/example/opacheck/opacheck/PrecedenceTraversal" "number" "I" (.int (((0 : Int32) + (1 : Int32)) + (1 : Int32))) := (Fld.keep P561_0 K569 (ninS (Ne.symm ne537) (ninS (Ne.symm ne543) nin0)))
        have c573 : Fld Z T569.heap b522 "com/example/opacheck/opacheck/PrecedenceTraversal" "visitedIn" "[I" (.ref vi_524) := (Fld.keep P561_2 K569 (ninS (Ne.symm ne537) (ninS (Ne.symm ne543) nin0)))
        have O574 : Ext Z.heap T569.heap := (Ext.keep O566 K569 (allS n_vi_524 (allS n_vp_524 all0)))
        have c575 : Exa Z T569.heap b522 "com/example/opacheck/opacheck/PrecedenceTraversal" := (Exa.keep c567 K569)
        refine Go.callV (y := (⟨"com/example/opacheck/opacheck/PrecedenceTraversal", "visited", "(I)Z"⟩ : MethodName)) (z := (⟨"com/example/opacheck/opacheck/PrecedenceTraversal", "visited", "(I)Z"⟩ : MethodName)) (a := b522) (pc' := 191) C X569 (hw _ (List.mem_of_getElem? (i := 68) rfl)) (hw _ (List.mem_of_getElem? (i := 69) rfl)) (notFace_at C.2.1 (hw _ (List.mem_of_getElem? (i := 71) rfl))) (hw _ (List.mem_of_getElem? (i := 71) rfl)) (hw _ (List.mem_of_getElem? (i := 70) rfl)) c575 (by decide) (rm_vdF l Z a0 hw b522 t ((((0 : Int32) + (1 : Int32)) + (1 : Int32))) vi_524 ki_524 (((((List.replicate cnt.toNatClampNeg (.int 0)).set u.toNatClampNeg (.int ((0 : Int32) + (1 : Int32)))).set w.toNatClampNeg (.int ((0 : Int32) + (1 : Int32)))).set w.toNatClampNeg (.int (((0 : Int32) + (1 : Int32)) + (1 : Int32))))) ((0 : Int32)) T569.heap O574 c572 c573 P569_0 get (own_miss get gew htw (own_miss get gew htw (own_miss get geu htu (own_at _ _ ltt)))) (by decide)) (hw _ (List.mem_of_getElem? (i := 72) rfl)) (hw _ (List.mem_of_getElem? (i := 19) rfl)) rfl (argsL := [(.int t)]) (rest := []) (W := 0) rfl rfl pd_5 rfl (Nat.le_of_eq rfl) rfl (by decide) (by decide) (by decide) (by decide) at_188 rfl ?_
        intro T571 v571 L571 X571 q571
        obtain ⟨rfl, rfl, e571⟩ := q571
        have N571 := Fr.app N569 (Fr.nil _)
        refine Go.iload (pc' := 193) C X571 at_191 rfl rfl ?_
        refine Go.iload (pc' := 195) C X571 at_193 rfl rfl ?_
        refine Go.icmpYes (pc' := 202) C X571 at_195 (feq (x := t) (y := w) htw).2 (by decide) (by decide) ?_
        refine Go.iconst (z := (0 : Int32)) (pc' := 203) C X571 at_202 rfl rfl ?_
        refine Go.icmpNo (pc' := 206) C X571 at_203 (teq (x := (0 : Int32)) (y := (0 : Int32)) (by decide)).2 rfl ?_
        refine Go.iconst (z := (1 : Int32)) (pc' := 207) C X571 at_206 rfl rfl ?_
        refine Go.goto (pc' := 211) C X571 at_207 (by decide) (by decide) ?_
        refine Go.istore (Ls' := #[.val (.int p1), .val (.int p2), .val (.int p3), .val (.int p4), .val (.int p5), .val (.int cnt), .val (.int t), .val (.int u), .val (.int w), .val (.int (1 : Int32)), .val (.ref b519), .val (.ref b522), .val (.int (1 : Int32)), .val (.int (1 : Int32)), .val (.int (1 : Int32)), .val (.int (1 : Int32))]) (pc' := 213) C X571 at_211 rfl rfl ?_
        refine Go.iload (pc' := 215) C X571 at_213 rfl rfl ?_
        refine Go.ifNo (pc' := 218) C X571 at_215 ((if0 _ _).trans (feq (x := (1 : Int32)) (y := (0 : Int32)) (by decide)).1) rfl ?_
        refine Go.iload (pc' := 220) C X571 at_218 rfl rfl ?_
        refine Go.ifNo (pc' := 223) C X571 at_220 ((if0 _ _).trans (feq (x := (1 : Int32)) (y := (0 : Int32)) (by decide)).1) rfl ?_
        refine Go.iload (pc' := 225) C X571 at_223 rfl rfl ?_
        refine Go.ifNo (pc' := 228) C X571 at_225 ((if0 _ _).trans (feq (x := (1 : Int32)) (y := (0 : Int32)) (by decide)).1) rfl ?_
        refine Go.iload (pc' := 230) C X571 at_228 rfl rfl ?_
        refine Go.ifNo (pc' := 233) C X571 at_230 ((if0 _ _).trans (feq (x := (1 : Int32)) (y := (0 : Int32)) (by decide)).1) rfl ?_
        refine Go.iconst (z := (1 : Int32)) (pc' := 234) C X571 at_233 rfl rfl ?_
        refine Go.goto (pc' := 238) C X571 at_234 (by decide) (by decide) ?_
        have K582 : Keep h0 T569.heap [] := ((((((((((Keep.refl h0 []).ext E519).trans K520 (allS (Or.inr z_b519) all0)).ext E522).trans K524 (allS (Or.inr z_b522) all0)).trans K533 (allS (Or.inr z_b522) all0)).trans K542 (allS (Or.inr z_vi_524) (allS (Or.inr z_vp_524) all0))).trans K546 (allS (Or.inr z_vi_524) (allS (Or.inr z_vp_524) all0))).trans K561 (allS (Or.inr z_b522) all0)).trans K569 (allS (Or.inr z_vi_524) (allS (Or.inr z_vp_524) all0)))
        exact Go.retN C X571 rfl at_238 (by simp) (by rw [e571]; exact ⟨rfl, N571, K582⟩) (by decide) (by decide)
set_option maxRecDepth 65536 in
set_option maxHeartbeats 40000000 in
theorem comes_1 {Post : Tables → Env → Array Value → State → Outcome → State → Prop} (hpost : ∀ tb e args s v u, (limb_1_1.after args s (.returned v) u = true ∧ limb_1_2.after args s (.returned v) u = true ∧ True) → FrameEnd s (.returned v) u (Jvm.fieldLocs frame_1_writes args s ++ Jvm.arrayLocs frame_1_arrays args s ++ Jvm.staticLocs frame_1_statics s) 56 320 → Post tb e args s (.returned v) u) :
    ArmFor flags0 classFile x code maxLocals ret World_1 tables_1 room_1 Calls_1 rest_1 Pre_1 Post := by
  intro l hfl _ _ p e ha hc hk s m args below hf hA hF happ hP
  obtain ⟨hcalls, hrest, hpre⟩ := hP
  obtain ⟨-, -, -, hnamed, -, -, -, hat⟩ := (Spec.applies_iff hf).mp happ
  obtain ⟨hg, hn⟩ := and_e (Cond.before_iff.mp (show (Jvm.Cond.and given_1 narrow_1).before args s = true from hpre))
  obtain ⟨g1, g2⟩ := and_e hg
  obtain ⟨g3, g4⟩ := and_e g2
  obtain ⟨g5, g6⟩ := and_e g4
  obtain ⟨g7, g8⟩ := and_e g6
  obtain ⟨g9, g10⟩ := and_e g8
  obtain ⟨w0, w1, w2, w3, w4, rfl⟩ : ∃ w0 w1 w2 w3 w4 : Value, args = #[w0, w1, w2, w3, w4] := by
    have hs : args.size = 5 := by simpa [Cond.value, given_1] using g1
    obtain ⟨L⟩ := args
    match L, hs with
    | [w0, w1, w2, w3, w4], _ => exact ⟨w0, w1, w2, w3, w4, rfl⟩
  have hw := fun d (hd : d ∈ tables_1) => atoms_spec (ws := Jvm.Cond.code x code maxLocals ret :: tables_1) hat d (List.mem_cons_of_mem _ hd)
  have hfit : Fit s := fun {y c} hc i hi => by
    obtain ⟨ha, rfl⟩ := Array.getElem?_eq_some_iff.mp hc
    have q := List.all_eq_true.mp ((Array.all_eq_true_iff_forall_mem.mp hF) _ (Array.getElem_mem ha)) i (List.mem_range.mpr hi)
    simpa [Array.getElem?_eq_getElem hi] using q
  obtain ⟨i0, ei0⟩ := is_v g3
  obtain rfl : w0 = (.int i0) := Option.some.inj ei0
  obtain ⟨i1, ei1⟩ := is_v g5
  obtain rfl : w1 = (.int i1) := Option.some.inj ei1
  obtain ⟨i2, ei2⟩ := is_v g7
  obtain rfl : w2 = (.int i2) := Option.some.inj ei2
  obtain ⟨i3, ei3⟩ := is_v g9
  obtain rfl : w3 = (.int i3) := Option.some.inj ei3
  obtain ⟨i4, ei4⟩ := is_v g10
  obtain rfl : w4 = (.int i4) := Option.some.inj ei4
  obtain ⟨n, o, h1, h2, h3, _, L, rfl, ⟨rfl, N, -⟩, hq⟩ := rm_law l s _ hw i0 i1 i2 i3 i4 s.heap (Ext.refl _)  tables_1 p e ha hc hk s m _ below hf ((Spec.applies_iff_loose hf).mp happ).1 ⟨rfl, State.Warmed39.refl s, rfl⟩ trivial
  refine ⟨n, _, h1, h2, h3, hpost _ _ _ _ _ _ ⟨Cond.after_iff.mpr rfl, Cond.after_iff.mpr (eq_i res_at (Term.int_eval (1)) rfl), trivial⟩ ⟨hq.1, hq.2.1, (hq.2.2.sift fun y hy => Or.inr (N y hy)).mono (by decide) (by decide)⟩⟩
theorem main_1_1 : Claimed_1_1 := comes_1 fun _ _ _ _ _ _ h hF => ⟨h.1, hF⟩
theorem main_1_2 : Claimed_1_2 := comes_1 fun _ _ _ _ _ _ h hF => ⟨h.2.1, hF⟩
end Jvm.Pilot.@@N@@
namespace Jvm.Pilot.@@N@@
open Jvm Jvm.ClassFile Sem Op Lib Jvm.Free Jvm.Stand Jvm.Pilot.@@N@@.Jvm.D
/-! MADE BY PROGRAM (witnessworld.py) out of the Statement's table words and the real class files: 13 classes; the members and pool entries that the words name. The judged class is class 1, her method 1. -/
namespace start1
open Jvm.ClassFile
def u (s : String) : CpInfo := .utf8 (stringToUtf16 s)
/-- a pool by its gaps: so many unusable entries, then the entry; so many at the end -/
def gap : Nat → List CpInfo → List CpInfo
  | 0, r => r
  | n + 1, r => .unusable :: gap n r
def poolList (es : List (Nat × CpInfo)) (last : Nat) : List CpInfo := es.foldr (fun e r => gap e.1 (e.2 :: r)) (gap last [])
def pool (es : List (Nat × CpInfo)) (last : Nat) : Array CpInfo := ⟨poolList es last⟩
def fileOf (pool : Array CpInfo) (this : Nat) (attrs : Array Attribute := #[]) (ms : Array MethodInfo := #[]) (fl : Nat := 33) (sup : Nat := 0) (ifs : Array Nat := #[]) (fds : Array FieldInfo := #[]) : ClassFile where
  minorVersion := 0
  majorVersion := 65
  constantPool := pool
  accessFlags := fl
  thisClass := this
  superClass := sup
  interfaces := ifs
  fields := fds
  methods := ms
  attributes := attrs
def plain (name : String) (sup : Option ClassId) : Class where
  name := name
  kind := .ordinary
  loader := none
  accessFlags := 33
  super := sup
  interfaces := #[]
  cf := none
  fields := #[]
  methods := #[]
  instanceTypes := #[]
  staticTypes := #[]
  resolved := #[]
  callSites := []
  init := .initialized
  statics := none
  mirror := none

def pool0 : Array CpInfo := pool [(5, u "<init>"), (0, u "()V"), (1, .class_ 10), (1, u "java/lang/Object")] 113

def k0c0 : Code := { maxStack := 0, maxLocals := 1, code := object_method_1_code, exceptionTable := #[], attributes := #[] }
def k0m0 : Method := { name := "<init>", desc := "()V", sig := { parameters := [], returnType := none }, accessFlags := 1, code := some k0c0 }
/-- java/lang/Object -/
def k0 : Class := { plain "java/lang/Object" none with
  accessFlags := 33
  interfaces := #[]
  cf := some (fileOf pool0 8 #[] #[{ accessFlags := 1, nameIndex := 5, descriptorIndex := 6, attributes := #[] }] 33 0 #[] #[])
  fields := #[]
  methods := #[k0m0]
  instanceTypes := #[]
  staticTypes := #[]
  resolved := Array.replicate 124 none
  statics := none }

def pool1 : Array CpInfo := pool [(2, .class_ 4), (1, u "java/lang/Object"), (0, u "<init>"), (0, u "()V"), (0, .integer 2147483647), (0, .class_ 9), (0, u "com/example/opacheck/opacheck/PrecedenceTraversal$Neighbours"), (0, .methodref 8 11), (0, .nameAndType 5 12), (0, u "(I)V"), (0, .class_ 14), (0, u "com/example/opacheck/opacheck/PrecedenceTraversal"), (0, .methodref 13 16), (0, .nameAndType 5 17), (0, u "(Lcom/example/opacheck/opacheck/PrecedenceTraversal$Neighbours;)V"), (0, .methodref 13 19), (0, .nameAndType 20 21), (0, u "restart"), (0, u "(Ljava/util/function/IntPredicate;)V"), (0, .methodref 13 23), (0, .nameAndType 24 25), (0, u "visited"), (0, u "(I)Z"), (0, .methodref 13 27), (0, .nameAndType 28 12), (0, u "visit"), (0, .class_ 30), (0, u "com/example/opacheck/opacheck/PrecedenceTraversalVisitedPinLaw"), (2, u "law"), (0, u "(IIIII)Z")] 5

def k1m0 : Method := { name := "<init>", desc := "()V", sig := { parameters := [], returnType := none }, accessFlags := 1, code := none }
def k1c1 : Code := { maxStack := 3, maxLocals := 16, code := code, exceptionTable := #[], attributes := #[] }
def k1m1 : Method := { name := "law", desc := "(IIIII)Z", sig := { parameters := [.int, .int, .int, .int, .int], returnType := some .boolean }, accessFlags := 9, code := some k1c1 }
/-- com/example/opacheck/opacheck/PrecedenceTraversalVisitedPinLaw -/
def k1 : Class := { plain "com/example/opacheck/opacheck/PrecedenceTraversalVisitedPinLaw" (some 0) with
  accessFlags := 49
  interfaces := #[]
  cf := some (fileOf pool1 29 #[] #[{ accessFlags := 1, nameIndex := 5, descriptorIndex := 6, attributes := #[] }, { accessFlags := 9, nameIndex := 33, descriptorIndex := 34, attributes := #[] }] 49 2 #[] #[])
  fields := #[]
  methods := #[k1m0, k1m1]
  instanceTypes := #[]
  staticTypes := #[]
  resolved := Array.replicate 40 none
  statics := none }

def pool2 : Array CpInfo := pool [(1, .methodref 2 3), (0, .class_ 4), (0, .nameAndType 5 6), (0, u "java/lang/Object"), (0, u "<init>"), (0, u "()V"), (0, .fieldref 8 9), (0, .class_ 10), (0, .nameAndType 11 12), (0, u "com/example/opacheck/opacheck/PrecedenceTraversal$Neighbours"), (0, u "members"), (0, u "[I"), (0, .fieldref 8 14), (0, .nameAndType 15 12), (0, u "ranges"), (0, .fieldref 8 17), (0, .nameAndType 18 19), (0, u "count"), (0, u "I"), (2, u "size"), (62, u "(I)V"), (65, u "rangesSize"), (14, .class_ 167), (0, u "com/example/opacheck/opacheck/PrecedenceTraversal")] 24

def k2c0 : Code := { maxStack := 2, maxLocals := 2, code := prog_47_method_1_code, exceptionTable := #[], attributes := #[] }
def k2m0 : Method := { name := "<init>", desc := "(I)V", sig := { parameters := [.int], returnType := none }, accessFlags := 0, code := some k2c0 }
/-- com/example/opacheck/opacheck/PrecedenceTraversal$Neighbours -/
def k2 : Class := { plain "com/example/opacheck/opacheck/PrecedenceTraversal$Neighbours" (some 0) with
  accessFlags := 48
  interfaces := #[]
  cf := some (fileOf pool2 8 #[.nestHost 166] #[{ accessFlags := 0, nameIndex := 5, descriptorIndex := 85, attributes := #[] }] 48 2 #[] #[{ accessFlags := 18, nameIndex := 18, descriptorIndex := 19, attributes := #[] }, { accessFlags := 2, nameIndex := 11, descriptorIndex := 12, attributes := #[] }, { accessFlags := 2, nameIndex := 22, descriptorIndex := 19, attributes := #[] }, { accessFlags := 2, nameIndex := 15, descriptorIndex := 12, attributes := #[] }, { accessFlags := 2, nameIndex := 151, descriptorIndex := 19, attributes := #[] }])
  fields := #[{ name := "count", type := .int, accessFlags := 18, slot := 0, constantValue := 0 }, { name := "members", type := (.array .int), accessFlags := 2, slot := 1, constantValue := 0 }, { name := "size", type := .int, accessFlags := 2, slot := 2, constantValue := 0 }, { name := "ranges", type := (.array .int), accessFlags := 2, slot := 3, constantValue := 0 }, { name := "rangesSize", type := .int, accessFlags := 2, slot := 4, constantValue := 0 }]
  methods := #[k2m0]
  instanceTypes := #[.int, (.array .int), .int, (.array .int), .int]
  staticTypes := #[]
  resolved := Array.replicate 192 none
  statics := none }

def pool3 : Array CpInfo := pool [(7, .methodref 8 9), (0, .class_ 10), (0, .nameAndType 11 12), (0, u "java/lang/Object"), (0, u "<init>"), (0, u "()V"), (0, .fieldref 14 15), (0, .class_ 16), (0, .nameAndType 17 18), (0, u "com/example/opacheck/opacheck/PrecedenceTraversal$Neighbours"), (0, u "count"), (0, u "I"), (0, .fieldref 14 20), (0, .nameAndType 21 22), (0, u "members"), (0, u "[I"), (0, .fieldref 14 24), (0, .nameAndType 25 18), (0, u "size"), (0, .methodref 27 28), (0, .class_ 29), (0, .nameAndType 30 31), (0, u "java/util/Arrays"), (0, u "copyOf"), (0, u "([II)[I"), (0, .fieldref 33 20), (0, .class_ 34), (0, u "com/example/opacheck/opacheck/PrecedenceTraversal"), (0, .fieldref 14 36), (0, .nameAndType 37 18), (0, u "rangesSize"), (0, .fieldref 14 39), (0, .nameAndType 40 22), (0, u "ranges"), (0, .class_ 22), (0, .fieldref 33 43), (0, .nameAndType 40 44), (0, u "[[I"), (0, .fieldref 33 46), (0, .nameAndType 47 22), (0, u "visitedIn"), (0, .fieldref 33 49), (0, .nameAndType 50 22), (0, u "positions"), (0, .fieldref 33 52), (0, .nameAndType 53 22), (0, u "links"), (0, .fieldref 33 55), (0, .nameAndType 56 22), (0, u "linkedIn"), (0, .fieldref 33 58), (0, .nameAndType 59 22), (0, u "path"), (0, .fieldref 33 61), (0, .nameAndType 62 18), (0, u "number"), (0, .fieldref 33 64), (0, .nameAndType 65 66), (0, u "scope"), (0, u "Ljava/util/function/IntPredicate;"), (6, u "visit"), (0, u "(I)V"), (5, u "visited"), (0, u "(I)Z"), (23, u "(Lcom/example/opacheck/opacheck/PrecedenceTraversal$Neighbours;)V"), (0, u "restart"), (0, u "(Ljava/util/function/IntPredicate;)V"), (5, .class_ 114), (0, u "com/example/opacheck/opacheck/PrecedenceTraversal$SortedGroup"), (0, .class_ 116), (0, u "com/example/opacheck/opacheck/PrecedenceTraversal$Member"), (0, .class_ 118), (0, u "com/example/opacheck/opacheck/PrecedenceTraversal$Span")] 5

def k3c0 : Code := { maxStack := 6, maxLocals := 7, code := prog_45_method_2_code, exceptionTable := #[], attributes := #[] }
def k3m0 : Method := { name := "<init>", desc := "(Lcom/example/opacheck/opacheck/PrecedenceTraversal$Neighbours;)V", sig := { parameters := [(.object "com/example/opacheck/opacheck/PrecedenceTraversal$Neighbours")], returnType := none }, accessFlags := 0, code := some k3c0 }
def k3c1 : Code := { maxStack := 3, maxLocals := 2, code := prog_45_method_3_code, exceptionTable := #[], attributes := #[] }
def k3m1 : Method := { name := "restart", desc := "(Ljava/util/function/IntPredicate;)V", sig := { parameters := [(.object "java/util/function/IntPredicate")], returnType := none }, accessFlags := 0, code := some k3c1 }
def k3c2 : Code := { maxStack := 2, maxLocals := 2, code := prog_45_method_4_code, exceptionTable := #[], attributes := #[] }
def k3m2 : Method := { name := "visited", desc := "(I)Z", sig := { parameters := [.int], returnType := some .boolean }, accessFlags := 0, code := some k3c2 }
def k3c3 : Code := { maxStack := 3, maxLocals := 2, code := prog_45_method_5_code, exceptionTable := #[], attributes := #[] }
def k3m3 : Method := { name := "visit", desc := "(I)V", sig := { parameters := [.int], returnType := none }, accessFlags := 0, code := some k3c3 }
/-- com/example/opacheck/opacheck/PrecedenceTraversal -/
def k3 : Class := { plain "com/example/opacheck/opacheck/PrecedenceTraversal" (some 0) with
  accessFlags := 48
  interfaces := #[]
  cf := some (fileOf pool3 33 #[.nestMembers #[14, 113, 115, 117]] #[{ accessFlags := 0, nameIndex := 11, descriptorIndex := 105, attributes := #[] }, { accessFlags := 0, nameIndex := 106, descriptorIndex := 107, attributes := #[] }, { accessFlags := 0, nameIndex := 80, descriptorIndex := 81, attributes := #[] }, { accessFlags := 0, nameIndex := 73, descriptorIndex := 74, attributes := #[] }] 48 8 #[] #[{ accessFlags := 18, nameIndex := 21, descriptorIndex := 22, attributes := #[] }, { accessFlags := 18, nameIndex := 40, descriptorIndex := 44, attributes := #[] }, { accessFlags := 2, nameIndex := 62, descriptorIndex := 18, attributes := #[] }, { accessFlags := 2, nameIndex := 65, descriptorIndex := 66, attributes := #[] }, { accessFlags := 18, nameIndex := 47, descriptorIndex := 22, attributes := #[] }, { accessFlags := 18, nameIndex := 50, descriptorIndex := 22, attributes := #[] }, { accessFlags := 18, nameIndex := 53, descriptorIndex := 22, attributes := #[] }, { accessFlags := 18, nameIndex := 56, descriptorIndex := 22, attributes := #[] }, { accessFlags := 18, nameIndex := 59, descriptorIndex := 22, attributes := #[] }])
  fields := #[{ name := "members", type := (.array .int), accessFlags := 18, slot := 0, constantValue := 0 }, { name := "ranges", type := (.array (.array .int)), accessFlags := 18, slot := 1, constantValue := 0 }, { name := "number", type := .int, accessFlags := 2, slot := 2, constantValue := 0 }, { name := "scope", type := (.object "java/util/function/IntPredicate"), accessFlags := 2, slot := 3, constantValue := 0 }, { name := "visitedIn", type := (.array .int), accessFlags := 18, slot := 4, constantValue := 0 }, { name := "positions", type := (.array .int), accessFlags := 18, slot := 5, constantValue := 0 }, { name := "links", type := (.array .int), accessFlags := 18, slot := 6, constantValue := 0 }, { name := "linkedIn", type := (.array .int), accessFlags := 18, slot := 7, constantValue := 0 }, { name := "path", type := (.array .int), accessFlags := 18, slot := 8, constantValue := 0 }]
  methods := #[k3m0, k3m1, k3m2, k3m3]
  instanceTypes := #[(.array .int), (.array (.array .int)), .int, (.object "java/util/function/IntPredicate"), (.array .int), (.array .int), (.array .int), (.array .int), (.array .int)]
  staticTypes := #[]
  resolved := ((((((Array.replicate 124 none).setIfInBounds 13 (some (.field 2 0))).setIfInBounds 19 (some (.field 2 1))).setIfInBounds 23 (some (.field 2 2))).setIfInBounds 35 (some (.field 2 4))).setIfInBounds 38 (some (.field 2 3)))
  statics := none }

def pool4 : Array CpInfo := pool [(2, .class_ 4), (1, u "java/lang/Object"), (0, u "<init>"), (0, u "()V"), (7, .class_ 16), (1, u "java/util/Arrays"), (57, .class_ 76), (1, u "java/util/Arrays$NaturalOrder"), (36, .class_ 115), (1, u "java/util/Arrays$LegacyMergeSort"), (1, u "Z"), (32, .methodref 151 152), (0, .class_ 153), (0, .nameAndType 154 155), (0, u "java/lang/System"), (0, u "arraycopy"), (0, u "(Ljava/lang/Object;ILjava/lang/Object;II)V"), (146, u "copyOf"), (1, .methodref 305 306), (0, .class_ 307), (0, .nameAndType 308 309), (0, u "java/lang/Math"), (0, u "min"), (0, u "(II)I"), (65, .class_ 376), (0, u "java/util/Arrays$ArrayList"), (68, u "$assertionsDisabled"), (269, u "MIN_ARRAY_SORT_GRAN"), (0, u "I"), (2, u "INSERTIONSORT_THRESHOLD"), (151, u "([II)[I"), (103, .class_ 976), (0, u "java/util/Arrays$ArrayItr")] 52

def k4m0 : Method := { name := "<init>", desc := "()V", sig := { parameters := [], returnType := none }, accessFlags := 2, code := none }
def k4c1 : Code := { maxStack := 6, maxLocals := 3, code := jdk_65_method_123_code, exceptionTable := #[], attributes := #[] }
def k4m1 : Method := { name := "copyOf", desc := "([II)[I", sig := { parameters := [(.array .int), .int], returnType := some (.array .int) }, accessFlags := 9, code := some k4c1 }
/-- java/util/Arrays -/
def k4 : Class := { plain "java/util/Arrays" (some 0) with
  accessFlags := 49
  interfaces := #[]
  cf := some (fileOf pool4 14 #[.nestMembers #[975, 375, 113, 74]] #[{ accessFlags := 2, nameIndex := 5, descriptorIndex := 6, attributes := #[] }, { accessFlags := 9, nameIndex := 302, descriptorIndex := 871, attributes := #[] }] 49 2 #[] #[{ accessFlags := 26, nameIndex := 715, descriptorIndex := 716, attributes := #[] }, { accessFlags := 26, nameIndex := 719, descriptorIndex := 716, attributes := #[] }, { accessFlags := 4120, nameIndex := 445, descriptorIndex := 117, attributes := #[] }])
  fields := #[{ name := "MIN_ARRAY_SORT_GRAN", type := .int, accessFlags := 26, slot := 0, constantValue := 0 }, { name := "INSERTIONSORT_THRESHOLD", type := .int, accessFlags := 26, slot := 1, constantValue := 0 }, { name := "$assertionsDisabled", type := .boolean, accessFlags := 4120, slot := 2, constantValue := 0 }]
  methods := #[k4m0, k4m1]
  instanceTypes := #[]
  staticTypes := #[.int, .int, .boolean]
  resolved := Array.replicate 1029 none
  statics := none }

def pool5 : Array CpInfo := pool [(1, .class_ 2), (0, u "java/lang/Math"), (1, .class_ 6), (1, u "java/lang/Object"), (0, u "<init>"), (0, u "()V"), (89, .class_ 100), (1, u "java/lang/Math$RandomNumberGeneratorHolder"), (71, u "negativeZeroFloatBits"), (0, u "J"), (2, u "negativeZeroDoubleBits"), (24, u "min"), (43, u "$assertionsDisabled"), (0, u "Z"), (88, u "(II)I"), (2, u "twoToTheDoubleScaleDown"), (0, u "D"), (4, u "twoToTheDoubleScaleUp"), (9, u "E"), (3, u "PI"), (2, u "TAU"), (2, u "DEGREES_TO_RADIANS"), (0, u "RADIANS_TO_DEGREES")] 94

def k5m0 : Method := { name := "<init>", desc := "()V", sig := { parameters := [], returnType := none }, accessFlags := 2, code := none }
def k5c1 : Code := { maxStack := 2, maxLocals := 2, code := jdk_29_method_69_code, exceptionTable := #[], attributes := #[] }
def k5m1 : Method := { name := "min", desc := "(II)I", sig := { parameters := [.int, .int], returnType := some .int }, accessFlags := 9, code := some k5c1 }
/-- java/lang/Math -/
def k5 : Class := { plain "java/lang/Math" (some 0) with
  accessFlags := 49
  interfaces := #[]
  cf := some (fileOf pool5 1 #[.nestMembers #[98]] #[{ accessFlags := 2, nameIndex := 7, descriptorIndex := 8, attributes := #[] }, { accessFlags := 9, nameIndex := 201, descriptorIndex := 335, attributes := #[] }] 49 4 #[] #[{ accessFlags := 25, nameIndex := 354, descriptorIndex := 339, attributes := #[] }, { accessFlags := 25, nameIndex := 358, descriptorIndex := 339, attributes := #[] }, { accessFlags := 25, nameIndex := 361, descriptorIndex := 339, attributes := #[] }, { accessFlags := 26, nameIndex := 364, descriptorIndex := 339, attributes := #[] }, { accessFlags := 26, nameIndex := 365, descriptorIndex := 339, attributes := #[] }, { accessFlags := 26, nameIndex := 172, descriptorIndex := 173, attributes := #[] }, { accessFlags := 26, nameIndex := 176, descriptorIndex := 173, attributes := #[] }, { accessFlags := 8, nameIndex := 344, descriptorIndex := 339, attributes := #[] }, { accessFlags := 8, nameIndex := 338, descriptorIndex := 339, attributes := #[] }, { accessFlags := 4120, nameIndex := 245, descriptorIndex := 246, attributes := #[] }])
  fields := #[{ name := "E", type := .double, accessFlags := 25, slot := 0, constantValue := 0 }, { name := "PI", type := .double, accessFlags := 25, slot := 1, constantValue := 0 }, { name := "TAU", type := .double, accessFlags := 25, slot := 2, constantValue := 0 }, { name := "DEGREES_TO_RADIANS", type := .double, accessFlags := 26, slot := 3, constantValue := 0 }, { name := "RADIANS_TO_DEGREES", type := .double, accessFlags := 26, slot := 4, constantValue := 0 }, { name := "negativeZeroFloatBits", type := .long, accessFlags := 26, slot := 5, constantValue := 0 }, { name := "negativeZeroDoubleBits", type := .long, accessFlags := 26, slot := 6, constantValue := 0 }, { name := "twoToTheDoubleScaleUp", type := .double, accessFlags := 8, slot := 7, constantValue := 0 }, { name := "twoToTheDoubleScaleDown", type := .double, accessFlags := 8, slot := 8, constantValue := 0 }, { name := "$assertionsDisabled", type := .boolean, accessFlags := 4120, slot := 9, constantValue := 0 }]
  methods := #[k5m0, k5m1]
  instanceTypes := #[]
  staticTypes := #[.double, .double, .double, .double, .double, .long, .long, .double, .double, .boolean]
  resolved := Array.replicate 460 none
  statics := none }

def pool6 : Array CpInfo := pool [(2, .class_ 4), (1, u "java/lang/Object"), (0, u "<init>"), (0, u "()V"), (1, .class_ 10), (1, u "java/lang/System"), (0, u "allowSecurityManager"), (0, u "I"), (16, u "cons"), (0, u "Ljava/io/Console;"), (77, .class_ 110), (1, u "java/lang/System$CallersHolder"), (43, u "initialErrStream"), (0, u "Ljava/io/PrintStream;"), (19, u "security"), (0, u "Ljava/lang/SecurityManager;"), (31, .class_ 209), (0, u "java/lang/System$1"), (7, u "props"), (0, u "Ljava/util/Properties;"), (2, u "lineSeparator"), (0, u "Ljava/lang/String;"), (96, .class_ 321), (1, u "java/lang/System$LoggerFinder"), (5, .class_ 328), (0, u "java/lang/System$Logger"), (67, u "err"), (2, u "out"), (91, u "notSupportedJnuEncoding"), (15, u "in"), (17, u "initialIn"), (0, u "Ljava/io/InputStream;"), (35, u "bootLayer"), (0, u "Ljava/lang/ModuleLayer;"), (99, .class_ 664), (0, u "java/lang/System$2"), (9, u "NEVER"), (2, u "MAYBE"), (49, u "arraycopy"), (0, u "(Ljava/lang/Object;ILjava/lang/Object;II)V"), (72, .class_ 802), (0, u "java/lang/System$Logger$Level")] 31

def k6m0 : Method := { name := "<init>", desc := "()V", sig := { parameters := [], returnType := none }, accessFlags := 2, code := none }
def k6m1 : Method := { name := "arraycopy", desc := "(Ljava/lang/Object;ILjava/lang/Object;II)V", sig := { parameters := [(.object "java/lang/Object"), .int, (.object "java/lang/Object"), .int, .int], returnType := none }, accessFlags := 265, code := none }
/-- java/lang/System -/
def k6 : Class := { plain "java/lang/System" (some 0) with
  accessFlags := 49
  interfaces := #[]
  cf := some (fileOf pool6 8 #[.nestMembers #[319, 327, 801, 108, 663, 208]] #[{ accessFlags := 2, nameIndex := 5, descriptorIndex := 6, attributes := #[] }, { accessFlags := 265, nameIndex := 727, descriptorIndex := 728, attributes := #[] }] 49 2 #[] #[{ accessFlags := 25, nameIndex := 507, descriptorIndex := 526, attributes := #[] }, { accessFlags := 25, nameIndex := 399, descriptorIndex := 155, attributes := #[] }, { accessFlags := 25, nameIndex := 396, descriptorIndex := 155, attributes := #[] }, { accessFlags := 10, nameIndex := 525, descriptorIndex := 526, attributes := #[] }, { accessFlags := 26, nameIndex := 674, descriptorIndex := 12, attributes := #[] }, { accessFlags := 26, nameIndex := 677, descriptorIndex := 12, attributes := #[] }, { accessFlags := 10, nameIndex := 11, descriptorIndex := 12, attributes := #[] }, { accessFlags := 74, nameIndex := 175, descriptorIndex := 176, attributes := #[] }, { accessFlags := 10, nameIndex := 491, descriptorIndex := 222, attributes := #[] }, { accessFlags := 74, nameIndex := 29, descriptorIndex := 30, attributes := #[] }, { accessFlags := 74, nameIndex := 154, descriptorIndex := 155, attributes := #[] }, { accessFlags := 10, nameIndex := 217, descriptorIndex := 218, attributes := #[] }, { accessFlags := 10, nameIndex := 221, descriptorIndex := 222, attributes := #[] }, { accessFlags := 8, nameIndex := 562, descriptorIndex := 563, attributes := #[] }])
  fields := #[{ name := "in", type := (.object "java/io/InputStream"), accessFlags := 25, slot := 0, constantValue := 0 }, { name := "out", type := (.object "java/io/PrintStream"), accessFlags := 25, slot := 1, constantValue := 0 }, { name := "err", type := (.object "java/io/PrintStream"), accessFlags := 25, slot := 2, constantValue := 0 }, { name := "initialIn", type := (.object "java/io/InputStream"), accessFlags := 10, slot := 3, constantValue := 0 }, { name := "NEVER", type := .int, accessFlags := 26, slot := 4, constantValue := 0 }, { name := "MAYBE", type := .int, accessFlags := 26, slot := 5, constantValue := 0 }, { name := "allowSecurityManager", type := .int, accessFlags := 10, slot := 6, constantValue := 0 }, { name := "security", type := (.object "java/lang/SecurityManager"), accessFlags := 74, slot := 7, constantValue := 0 }, { name := "notSupportedJnuEncoding", type := (.object "java/lang/String"), accessFlags := 10, slot := 8, constantValue := 0 }, { name := "cons", type := (.object "java/io/Console"), accessFlags := 74, slot := 9, constantValue := 0 }, { name := "initialErrStream", type := (.object "java/io/PrintStream"), accessFlags := 74, slot := 10, constantValue := 0 }, { name := "props", type := (.object "java/util/Properties"), accessFlags := 10, slot := 11, constantValue := 0 }, { name := "lineSeparator", type := (.object "java/lang/String"), accessFlags := 10, slot := 12, constantValue := 0 }, { name := "bootLayer", type := (.object "java/lang/ModuleLayer"), accessFlags := 8, slot := 13, constantValue := 0 }]
  methods := #[k6m0, k6m1]
  instanceTypes := #[]
  staticTypes := #[(.object "java/io/InputStream"), (.object "java/io/PrintStream"), (.object "java/io/PrintStream"), (.object "java/io/InputStream"), .int, .int, .int, (.object "java/lang/SecurityManager"), (.object "java/lang/String"), (.object "java/io/Console"), (.object "java/io/PrintStream"), (.object "java/util/Properties"), (.object "java/lang/String"), (.object "java/lang/ModuleLayer")]
  resolved := Array.replicate 834 none
  statics := none }

def pool7 : Array CpInfo := pool [(1, u "java/lang/Cloneable"), (0, .class_ 1), (0, u "java/lang/Object"), (0, .class_ 3)] 3

/-- java/lang/Cloneable -/
def k7 : Class := { plain "java/lang/Cloneable" (some 0) with
  accessFlags := 1537
  interfaces := #[]
  cf := some (fileOf pool7 2 #[] #[] 1537 4 #[] #[])
  fields := #[]
  methods := #[]
  instanceTypes := #[]
  staticTypes := #[]
  resolved := Array.replicate 8 none
  statics := none }

def pool8 : Array CpInfo := pool [(1, u "java/io/Serializable"), (0, .class_ 1), (0, u "java/lang/Object"), (0, .class_ 3)] 3

/-- java/io/Serializable -/
def k8 : Class := { plain "java/io/Serializable" (some 0) with
  accessFlags := 1537
  interfaces := #[]
  cf := some (fileOf pool8 2 #[] #[] 1537 4 #[] #[])
  fields := #[]
  methods := #[]
  instanceTypes := #[]
  staticTypes := #[]
  resolved := Array.replicate 8 none
  statics := none }

/-- the primitive byte -/
def k9 : Class := { plain "byte" none with kind := .primitive 'B', accessFlags := 0x411 }
/-- [B -/
def k10 : Class := { plain "[B" (some 0) with kind := .array 9 .byte, interfaces := #[7, 8], accessFlags := 1041 }

/-- the primitive int -/
def k11 : Class := { plain "int" none with kind := .primitive 'I', accessFlags := 0x411 }
/-- [I -/
def k12 : Class := { plain "[I" (some 0) with kind := .array 11 .int, interfaces := #[7, 8], accessFlags := 1041 }

def k13 : Class := { plain "[[I" (some 0) with kind := .array 12 (.array .int), interfaces := #[7, 8], accessFlags := 1041 }
def heap : Heap := #[]
def classes : Array Class := #[k0, k1, k2, k3, k4, k5, k6, k7, k8, k9, k10, k11, k12, k13]
def interned : List (Array UInt16 × Addr) := []
def slotsUsed : Nat := 0
def theMethod : MethodId := ⟨1, 1⟩
def args0 : Array Value := #[.int 5, .int 7, .int 1, .int 2, .int 3]
def aboutOver (below : List Frame) : State where
  vm := { classes := classes, interned := interned.toArray }
  heap := heap
  slotsUsed := slotsUsed
  threads := #[{ frames := .invoking theMethod args0 :: below }]
def below0 : List Frame := [.native { method := ⟨0, 0⟩, args := #[] }]
def about1 : State := aboutOver below0
def p0 : Program := .bare "" "" ""
def e0 : Env := launch0.env 0 0 0
theorem w_frames : about1.frames = Frame.invoking theMethod args0 :: below0 := rfl
set_option maxRecDepth 65536 in
theorem w_args : argsFit about1.vm theMethod args0 = true := by decide +kernel
set_option maxRecDepth 65536 in
theorem w_heap : heapFits about1 = true := by decide +kernel
set_option maxRecDepth 65536 in
theorem w_runnable : about1.curStatus? = some .runnable := by decide +kernel
set_option maxRecDepth 65536 in
theorem w_alone : about1.alone = true := by decide +kernel
set_option maxRecDepth 65536 in
theorem w_named : about1.methodNamed? x = some theMethod := by decide +kernel
set_option maxRecDepth 65536 in
theorem w_hears : about1.hears theMethod below0 = true := by decide +kernel
set_option maxRecDepth 65536 in
theorem w_ripe : about1.ripe theMethod args0 below0 = true := by decide +kernel
theorem w_running : about1.status = .running := rfl
set_option maxRecDepth 65536 in
theorem w_room : about1.hasRoom e0.platform room_1 = true :=
  launch0.hasRoom_least _ room_1 (by decide +kernel) (by decide +kernel) (by decide +kernel) (by decide +kernel) (by decide +kernel) (by decide +kernel)
theorem allAtoms_all (ts : List Jvm.Cond) (a : Array Jvm.Value) (st : Jvm.State) : (allAtoms ts).before a st = ts.all (fun c => c.before a st) := by
  induction ts with
  | nil => rfl
  | cons c t ih =>
    show (Jvm.Cond.and c (allAtoms t)).before a st = _
    rw [Jvm.Cond.before_and, ih, List.all_cons]
def words1 : List Jvm.Cond := Jvm.Cond.code x code maxLocals ret :: tables_1
/-- a 'code' word, met by the world's own term for the bytes: nothing is compared byte by byte -/
theorem code_word {y : MethodName} {bytes : ByteArray} {mx : Nat} {rt : Option FieldType} {a : Array Value} {s : State} {m : MethodId} {meth : Method} {c : Code} (h1 : s.methodNamed? y = some m) (h2 : s.vm.method? m = some meth) (h3 : meth.code = some c) (h4 : c.code = bytes)
    (h5 : (c.maxLocals == mx && c.exceptionTable.isEmpty && decide (c.maxStack ≤ mostOperands) && decide (meth.sig.returnType = rt) && !meth.locks && decide (parseMethodDescriptor y.desc = some meth.sig)) = true) : (Jvm.Cond.code y bytes mx rt).before a s = true := by
  simp only [Bool.and_eq_true, beq_iff_eq, Bool.not_eq_true', decide_eq_true_eq] at h5
  obtain ⟨⟨⟨⟨⟨g1, g2⟩, g3⟩, g4⟩, g5⟩, g6⟩ := h5
  simp [Cond.before, Cond.holds, Cond.value, h1, h2, h3, h4, g1, g2, g3, g4, g5, g6]
def isCode : Jvm.Cond → Bool
  | .code _ _ _ _ => true
  | _ => false
theorem all_split {L : List Jvm.Cond} {P : Jvm.Cond → Bool} (h1 : L.all (fun c => isCode c || P c) = true) (h2 : ∀ c ∈ L.filter isCode, P c = true) : L.all P = true := by
  refine List.all_eq_true.mpr fun c hc => ?_
  have h := List.all_eq_true.mp h1 c hc
  rcases Bool.eq_false_or_eq_true (isCode c) with hi | hi
  · exact h2 c (List.mem_filter.mpr ⟨hc, hi⟩)
  · simpa [hi] using h
set_option maxRecDepth 65536 in
theorem w_c0 : (Jvm.Cond.code x code maxLocals ret).before args0 about1 = true := code_word (m := ⟨1, 1⟩) (meth := k1m1) (c := k1c1) (by decide +kernel) rfl rfl rfl (by decide +kernel)
set_option maxRecDepth 65536 in
theorem w_c1 : (Jvm.Cond.code ({ cls := "com/example/opacheck/opacheck/PrecedenceTraversal$Neighbours", name := "<init>", desc := "(I)V" } : Jvm.MethodName) prog_47_method_1_code (2 : Nat) (Option.none : Option Jvm.ClassFile.FieldType)).before args0 about1 = true := code_word (m := ⟨2, 0⟩) (meth := k2m0) (c := k2c0) (by decide +kernel) rfl rfl rfl (by decide +kernel)
set_option maxRecDepth 65536 in
theorem w_c2 : (Jvm.Cond.code ({ cls := "java/lang/Object", name := "<init>", desc := "()V" } : Jvm.MethodName) object_method_1_code (1 : Nat) (Option.none : Option Jvm.ClassFile.FieldType)).before args0 about1 = true := code_word (m := ⟨0, 0⟩) (meth := k0m0) (c := k0c0) (by decide +kernel) rfl rfl rfl (by decide +kernel)
set_option maxRecDepth 65536 in
theorem w_c3 : (Jvm.Cond.code ({ cls := "com/example/opacheck/opacheck/PrecedenceTraversal", name := "<init>", desc := "(Lcom/example/opacheck/opacheck/PrecedenceTraversal$Neighbours;)V" } : Jvm.MethodName) prog_45_method_2_code (7 : Nat) (Option.none : Option Jvm.ClassFile.FieldType)).before args0 about1 = true := code_word (m := ⟨3, 0⟩) (meth := k3m0) (c := k3c0) (by decide +kernel) rfl rfl rfl (by decide +kernel)
set_option maxRecDepth 65536 in
theorem w_c4 : (Jvm.Cond.code ({ cls := "java/util/Arrays", name := "copyOf", desc := "([II)[I" } : Jvm.MethodName) jdk_65_method_123_code (3 : Nat) (Option.some (Jvm.ClassFile.FieldType.array Jvm.ClassFile.FieldType.int))).before args0 about1 = true := code_word (m := ⟨4, 1⟩) (meth := k4m1) (c := k4c1) (by decide +kernel) rfl rfl rfl (by decide +kernel)
set_option maxRecDepth 65536 in
theorem w_c5 : (Jvm.Cond.code ({ cls := "java/lang/Math", name := "min", desc := "(II)I" } : Jvm.MethodName) jdk_29_method_69_code (2 : Nat) (Option.some Jvm.ClassFile.FieldType.int)).before args0 about1 = true := code_word (m := ⟨5, 1⟩) (meth := k5m1) (c := k5c1) (by decide +kernel) rfl rfl rfl (by decide +kernel)
set_option maxRecDepth 65536 in
theorem w_c6 : (Jvm.Cond.code ({ cls := "com/example/opacheck/opacheck/PrecedenceTraversal", name := "restart", desc := "(Ljava/util/function/IntPredicate;)V" } : Jvm.MethodName) prog_45_method_3_code (2 : Nat) (Option.none : Option Jvm.ClassFile.FieldType)).before args0 about1 = true := code_word (m := ⟨3, 1⟩) (meth := k3m1) (c := k3c1) (by decide +kernel) rfl rfl rfl (by decide +kernel)
set_option maxRecDepth 65536 in
theorem w_c7 : (Jvm.Cond.code ({ cls := "com/example/opacheck/opacheck/PrecedenceTraversal", name := "visited", desc := "(I)Z" } : Jvm.MethodName) prog_45_method_4_code (2 : Nat) (Option.some Jvm.ClassFile.FieldType.boolean)).before args0 about1 = true := code_word (m := ⟨3, 2⟩) (meth := k3m2) (c := k3c2) (by decide +kernel) rfl rfl rfl (by decide +kernel)
set_option maxRecDepth 65536 in
theorem w_c8 : (Jvm.Cond.code ({ cls := "com/example/opacheck/opacheck/PrecedenceTraversal", name := "visit", desc := "(I)V" } : Jvm.MethodName) prog_45_method_5_code (2 : Nat) (Option.none : Option Jvm.ClassFile.FieldType)).before args0 about1 = true := code_word (m := ⟨3, 3⟩) (meth := k3m3) (c := k3c3) (by decide +kernel) rfl rfl rfl (by decide +kernel)
def codes1 : List Jvm.Cond := [Jvm.Cond.code x code maxLocals ret, Jvm.Cond.code ({ cls := "com/example/opacheck/opacheck/PrecedenceTraversal$Neighbours", name := "<init>", desc := "(I)V" } : Jvm.MethodName) prog_47_method_1_code (2 : Nat) (Option.none : Option Jvm.ClassFile.FieldType), Jvm.Cond.code ({ cls := "java/lang/Object", name := "<init>", desc := "()V" } : Jvm.MethodName) object_method_1_code (1 : Nat) (Option.none : Option Jvm.ClassFile.FieldType), Jvm.Cond.code ({ cls := "com/example/opacheck/opacheck/PrecedenceTraversal", name := "<init>", desc := "(Lcom/example/opacheck/opacheck/PrecedenceTraversal$Neighbours;)V" } : Jvm.MethodName) prog_45_method_2_code (7 : Nat) (Option.none : Option Jvm.ClassFile.FieldType), Jvm.Cond.code ({ cls := "java/util/Arrays", name := "copyOf", desc := "([II)[I" } : Jvm.MethodName) jdk_65_method_123_code (3 : Nat) (Option.some (Jvm.ClassFile.FieldType.array Jvm.ClassFile.FieldType.int)), Jvm.Cond.code ({ cls := "java/lang/Math", name := "min", desc := "(II)I" } : Jvm.MethodName) jdk_29_method_69_code (2 : Nat) (Option.some Jvm.ClassFile.FieldType.int), Jvm.Cond.code ({ cls := "com/example/opacheck/opacheck/PrecedenceTraversal", name := "restart", desc := "(Ljava/util/function/IntPredicate;)V" } : Jvm.MethodName) prog_45_method_3_code (2 : Nat) (Option.none : Option Jvm.ClassFile.FieldType), Jvm.Cond.code ({ cls := "com/example/opacheck/opacheck/PrecedenceTraversal", name := "visited", desc := "(I)Z" } : Jvm.MethodName) prog_45_method_4_code (2 : Nat) (Option.some Jvm.ClassFile.FieldType.boolean), Jvm.Cond.code ({ cls := "com/example/opacheck/opacheck/PrecedenceTraversal", name := "visit", desc := "(I)V" } : Jvm.MethodName) prog_45_method_5_code (2 : Nat) (Option.none : Option Jvm.ClassFile.FieldType)]
set_option maxRecDepth 65536 in
theorem codes_eq : words1.filter isCode = codes1 := rfl
theorem w_codes : ∀ c ∈ words1.filter isCode, c.before args0 about1 = true := by
  rw [codes_eq]
  intro c hc
  simp only [codes1, List.mem_cons, List.not_mem_nil, or_false] at hc
  rcases hc with rfl | rfl | rfl | rfl | rfl | rfl | rfl | rfl | rfl
  · exact w_c0
  · exact w_c1
  · exact w_c2
  · exact w_c3
  · exact w_c4
  · exact w_c5
  · exact w_c6
  · exact w_c7
  · exact w_c8
set_option maxRecDepth 65536 in
theorem w_t1 : (words1.take 24).all (fun c => isCode c || c.before args0 about1) = true := by decide +kernel
set_option maxRecDepth 65536 in
theorem w_t2 : ((words1.drop 24).take 24).all (fun c => isCode c || c.before args0 about1) = true := by decide +kernel
set_option maxRecDepth 65536 in
theorem w_t3 : (((words1.drop 24).drop 24).take 24).all (fun c => isCode c || c.before args0 about1) = true := by decide +kernel
set_option maxRecDepth 65536 in
theorem w_t4 : (((words1.drop 24).drop 24).drop 24).all (fun c => isCode c || c.before args0 about1) = true := by decide +kernel
theorem w_tables : (allAtoms (Jvm.Cond.code x code maxLocals ret :: tables_1)).before args0 about1 = true := by
  rw [allAtoms_all]
  show words1.all (fun c => c.before args0 about1) = true
  refine all_split ?_ w_codes
  rw [← List.take_append_drop 24 words1, List.all_append, w_t1, ← List.take_append_drop 24 (words1.drop 24), List.all_append, w_t2, ← List.take_append_drop 24 ((words1.drop 24).drop 24), List.all_append, w_t3, w_t4]
  rfl
set_option maxRecDepth 65536 in
theorem w_case : (Jvm.Cond.and given_1 narrow_1).before args0 about1 = true := by decide +kernel
theorem w_applies : (headSpec (Jvm.Cond.code x code maxLocals ret :: tables_1) room_1).applies x e0.platform about1 = true :=
  (Spec.applies_iff w_frames).mpr ⟨w_running, w_runnable, w_alone, w_named, w_hears, w_ripe, w_room, w_tables⟩
theorem atStart : AtStart classFile x code maxLocals ret World_1 tables_1 room_1 Calls_1 rest_1 Pre_1 launch0 p0 e0 about1 theMethod args0 below0 :=
  ⟨lists_1, trivial, launch0.admits_env _ _ _, launch0.least_env, fairChoices_fair.cas, fairChoices_fair.clock, w_frames, w_args, w_heap, w_applies, trivial, trivial, w_case⟩
end start1
theorem witness_1 : WitnessClaimed_1 := ⟨start1.p0, start1.e0, start1.about1, start1.theMethod, start1.args0, start1.below0, start1.atStart⟩
end Jvm.Pilot.@@N@@
