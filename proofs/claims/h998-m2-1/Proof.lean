import JvmDerived
import JvmDerived.Pilot.@@N@@Statement
import JvmDerived.Pilot.@@N@@Code
set_option linter.unusedVariables false
set_option linter.unusedSimpArgs false
namespace Jvm.RoadKit
open Sem ClassFile Op Lib Jvm.Stand Jvm.Free Jvm.LawKit
section Own
variable {p : Program} {l : Launch} {e : Env} {R : Room} {s : State} {m : MethodId} {args : Array Value} {below : List Frame} {meth : Method} {c : Code} {T : State} {locs : List Loc} {cells slots : Nat} {Z : State} {a0 : Array Value} {h : Heap}
/-- from T with the frame g on top the run comes back with what Q says -/
def Go (p : Program) (e : Env) (below : List Frame) (Fin' : Outcome → State → Prop) (T : State) (g : JFrame) : Prop :=
  ∃ s₂ o, Steps p.tables e below (T.setTop g) s₂ ∧ s₂.status = .running ∧ Ended s₂ below o ∧ Fin' o s₂
/-- how a body ends -/
def Fn (s : State) (RC RS : Nat) (Q : Option Value → Heap → List Loc → Prop) (o : Outcome) (t : State) : Prop := ∃ v L, o = .returned v ∧ Q v t.heap L ∧ FrameEnd s o t L RC RS
/-- what stands fast through a body's walk -/
def Cx (p : Program) (s : State) (m : MethodId) (meth : Method) (c : Code) (Z : State) (own nm : String) (bytes : ByteArray) (maxL : Nat) (ret : Option FieldType) : Prop :=
  p.tables.exec = Jvm.exec ∧ Z.Warmed39 s.vm ∧ s.vm.findClass own = some m.cls ∧ c.code = bytes ∧ c.maxLocals = maxL ∧ meth.sig.returnType = ret ∧ meth.name = nm ∧ meth.locks = false
variable {RC RS : Nat} {Q : Option Value → Heap → List Loc → Prop} {Fin' : Outcome → State → Prop} {own nm : String} {bytes : ByteArray} {maxL : Nat} {ret : Option FieldType} {pc pc' : Nat} {Ls Ls' : Array Slot} {S : List Value}
theorem Go.via {T' : State} {g g' : JFrame} (G : Go p e below Fin' T' g') (k : ∀ t, Steps p.tables e below (T'.setTop g') t → Steps p.tables e below (T.setTop g) t) : Go p e below Fin' T g := by
  obtain ⟨s₂, o, st, r⟩ := G; exact ⟨s₂, o, k _ st, r⟩
theorem Go.cast {g g' : JFrame} (q : g = g') (G : Go p e below Fin' T g') : Go p e below Fin' T g := q ▸ G
/-- a body's contract -/
def Met1 (l : Launch) (Z : State) (y : MethodName) (bytes : ByteArray) (maxL : Nat) (ret : Option FieldType) (rm : Room) (as' : Array Value) (h0 : Heap) (Q : Option Value → Heap → List Loc → Prop) : Prop :=
  ∀ ws : List Jvm.Cond, MetFree l y (head1 (Jvm.Cond.code y bytes maxL ret :: ws) rm) (fun a U => a = as' ∧ Z.Warmed39 U.vm ∧ U.heap = h0) (fun _ _ _ _ _ => True) (fun _ U o U' => ∃ v L, o = .returned v ∧ Q v U'.heap L ∧ FrameEnd U o U' L rm.cells rm.slots)
theorem Met1.of_body {y : MethodName} {rm : Room} {as' : Array Value} {h0 : Heap} (hp : plainFor y = true) (ef : ∀ m, entryFrame m as' maxL = mkF m 0 Ls [])
    (body : ∀ {p : Program} {e : Env} {s : State} {m : MethodId} {below : List Frame} {meth : Method} {c : Code} {T : State}, Cx p s m meth c Z y.cls y.name bytes maxL ret → Stand p l e rm s m as' below meth c T [] 0 0 → T.heap = h0 → Go p e below (Fn s rm.cells rm.slots Q) T (mkF m 0 Ls [])) :
    Met1 l Z y bytes maxL ret rm as' h0 Q := by
  intro ws
  refine MetFree.of_bodySF hp hisR ?_
  intro p e s m args below meth c s₁ Bd hml0 hP hK
  obtain ⟨rfl, hZ, hh⟩ := hP
  have X0 : Stand p l e rm s m args below meth c s₁ [] 0 0 := Stand.of_body Bd
  have hlk : meth.locks = false := BodyLoose.notSynchronized Bd
  obtain ⟨s₂, o, st, r1, r2, r3⟩ := body (p := p) (e := e) (s := s) (m := m) (below := below) (meth := meth) (c := c) (T := s₁) ⟨Bd.exec, hZ, findClass_of_methodNamed Bd.named, Bd.bytes, hml0, Bd.returns, (name_of_methodNamed Bd.named Bd.method).1, hlk⟩ X0 (by rw [← hh, Bd.state]; rfl)
  exact ⟨s₂, o, castTop (ef m) st, r1, r2, r3⟩
/-- a contract may say less -/
theorem Met1.weak {y : MethodName} {rm : Room} {as' : Array Value} {h0 : Heap} {Q' : Option Value → Heap → List Loc → Prop} (M : Met1 l Z y bytes maxL ret rm as' h0 Q) (q : ∀ v h L, Q v h L → Q' v h L) : Met1 l Z y bytes maxL ret rm as' h0 Q' := by
  intro ws p e ha hc hk s m args below hf happ hP hK
  obtain ⟨n, o, h1, h2, h3, v, L, h4, h5, h6⟩ := M ws p e ha hc hk s m args below hf happ hP hK
  exact ⟨n, o, h1, h2, h3, v, L, h4, q _ _ _ h5, h6⟩

/-! plain steps -/
theorem Go.aloadN (C : Cx p s m meth c Z own nm bytes maxL ret) (X : Stand p l e R s m args below meth c T locs cells slots) {k : Fin 4} {v : Value} (hd : decode bytes pc = .ok (.aload_n k, 1)) (hl : Ls[k.val]? = some (.val v)) (hv : v.isRef = true) (hp : pc + 1 = pc') (G : Go p e below Fin' T (mkF m pc' Ls (v :: S))) : Go p e below Fin' T (mkF m pc Ls S) := by
  subst hp; exact G.via fun _ k => XS.aloadN X.here C.1 rfl (hb C.2.2.2.1 hd) hl hv k
theorem Go.aload (C : Cx p s m meth c Z own nm bytes maxL ret) (X : Stand p l e R s m args below meth c T locs cells slots) {k : Nat} {v : Value} (hd : decode bytes pc = .ok (.aload k, 2)) (hl : Ls[k]? = some (.val v)) (hv : v.isRef = true) (hp : pc + 2 = pc') (G : Go p e below Fin' T (mkF m pc' Ls (v :: S))) : Go p e below Fin' T (mkF m pc Ls S) := by
  subst hp; exact G.via fun _ k => XS.aload X.here C.1 rfl (hb C.2.2.2.1 hd) hl hv k
theorem Go.iloadN (C : Cx p s m meth c Z own nm bytes maxL ret) (X : Stand p l e R s m args below meth c T locs cells slots) {k : Fin 4} {v : Int32} (hd : decode bytes pc = .ok (.iload_n k, 1)) (hl : Ls[k.val]? = some (.val (.int v))) (hp : pc + 1 = pc') (G : Go p e below Fin' T (mkF m pc' Ls (.int v :: S))) : Go p e below Fin' T (mkF m pc Ls S) := by
  subst hp; exact G.via fun _ k => XS.iloadN X.here C.1 rfl (hb C.2.2.2.1 hd) hl k
theorem Go.iload (C : Cx p s m meth c Z own nm bytes maxL ret) (X : Stand p l e R s m args below meth c T locs cells slots) {k : Nat} {v : Int32} (hd : decode bytes pc = .ok (.iload k, 2)) (hl : Ls[k]? = some (.val (.int v))) (hp : pc + 2 = pc') (G : Go p e below Fin' T (mkF m pc' Ls (.int v :: S))) : Go p e below Fin' T (mkF m pc Ls S) := by
  subst hp; exact G.via fun _ k => XS.iload X.here C.1 rfl (hb C.2.2.2.1 hd) hl k
theorem Go.istoreN (C : Cx p s m meth c Z own nm bytes maxL ret) (X : Stand p l e R s m args below meth c T locs cells slots) {k : Fin 4} {v : Int32} (hd : decode bytes pc = .ok (.istore_n k, 1)) (hl : storeLocals Ls k.val (.int v) = some Ls') (hp : pc + 1 = pc') (G : Go p e below Fin' T (mkF m pc' Ls' S)) : Go p e below Fin' T (mkF m pc Ls (.int v :: S)) := by
  subst hp; exact G.via fun _ k => XS.istoreN X.here C.1 rfl (hb C.2.2.2.1 hd) rfl hl k
theorem Go.istore (C : Cx p s m meth c Z own nm bytes maxL ret) (X : Stand p l e R s m args below meth c T locs cells slots) {k : Nat} {v : Int32} (hd : decode bytes pc = .ok (.istore k, 2)) (hl : storeLocals Ls k (.int v) = some Ls') (hp : pc + 2 = pc') (G : Go p e below Fin' T (mkF m pc' Ls' S)) : Go p e below Fin' T (mkF m pc Ls (.int v :: S)) := by
  subst hp; exact G.via fun _ k => XS.istore X.here C.1 rfl (hb C.2.2.2.1 hd) rfl hl k
theorem Go.lloadN (C : Cx p s m meth c Z own nm bytes maxL ret) (X : Stand p l e R s m args below meth c T locs cells slots) {k : Fin 4} {v : Int64} (hd : decode bytes pc = .ok (.lload_n k, 1)) (hl : Ls[k.val]? = some (.val (.long v))) (hp : pc + 1 = pc') (G : Go p e below Fin' T (mkF m pc' Ls (.long v :: S))) : Go p e below Fin' T (mkF m pc Ls S) := by
  subst hp; exact G.via fun _ k => XS.lloadN X.here C.1 rfl (hb C.2.2.2.1 hd) hl k
theorem Go.lload (C : Cx p s m meth c Z own nm bytes maxL ret) (X : Stand p l e R s m args below meth c T locs cells slots) {k : Nat} {v : Int64} (hd : decode bytes pc = .ok (.lload k, 2)) (hl : Ls[k]? = some (.val (.long v))) (hp : pc + 2 = pc') (G : Go p e below Fin' T (mkF m pc' Ls (.long v :: S))) : Go p e below Fin' T (mkF m pc Ls S) := by
  subst hp; exact G.via fun _ k => XS.lload X.here C.1 rfl (hb C.2.2.2.1 hd) hl k
theorem Go.lstore (C : Cx p s m meth c Z own nm bytes maxL ret) (X : Stand p l e R s m args below meth c T locs cells slots) {k : Nat} {v : Int64} (hd : decode bytes pc = .ok (.lstore k, 2)) (hl : storeLocals Ls k (.long v) = some Ls') (hp : pc + 2 = pc') (G : Go p e below Fin' T (mkF m pc' Ls' S)) : Go p e below Fin' T (mkF m pc Ls (.long v :: S)) := by
  subst hp; exact G.via fun _ k => XS.lstore X.here C.1 rfl (hb C.2.2.2.1 hd) rfl hl k
theorem Go.astoreN (C : Cx p s m meth c Z own nm bytes maxL ret) (X : Stand p l e R s m args below meth c T locs cells slots) {k : Fin 4} {v : Value} (hd : decode bytes pc = .ok (.astore_n k, 1)) (hv : v.isRef = true) (hl : storeLocals Ls k.val v = some Ls') (hp : pc + 1 = pc') (G : Go p e below Fin' T (mkF m pc' Ls' S)) : Go p e below Fin' T (mkF m pc Ls (v :: S)) := by
  subst hp; exact G.via fun _ k => XS.astoreN X.here C.1 rfl (hb C.2.2.2.1 hd) rfl hv hl k
theorem Go.astore (C : Cx p s m meth c Z own nm bytes maxL ret) (X : Stand p l e R s m args below meth c T locs cells slots) {k : Nat} {v : Value} (hd : decode bytes pc = .ok (.astore k, 2)) (hv : v.isRef = true) (hl : storeLocals Ls k v = some Ls') (hp : pc + 2 = pc') (G : Go p e below Fin' T (mkF m pc' Ls' S)) : Go p e below Fin' T (mkF m pc Ls (v :: S)) := by
  subst hp; exact G.via fun _ k => XS.astore X.here C.1 rfl (hb C.2.2.2.1 hd) rfl hv hl k
theorem Go.iconst (C : Cx p s m meth c Z own nm bytes maxL ret) (X : Stand p l e R s m args below meth c T locs cells slots) {i : Int} {z : Int32} (hd : decode bytes pc = .ok (.iconst i, 1)) (hz : Int32.ofInt i = z) (hp : pc + 1 = pc') (G : Go p e below Fin' T (mkF m pc' Ls (.int z :: S))) : Go p e below Fin' T (mkF m pc Ls S) := by
  subst hp; exact G.via fun _ k => XT.iconstV X.here C.1 rfl z (hb C.2.2.2.1 hd) hz k
theorem Go.bipush (C : Cx p s m meth c Z own nm bytes maxL ret) (X : Stand p l e R s m args below meth c T locs cells slots) {i : Int} {z : Int32} (hd : decode bytes pc = .ok (.bipush i, 2)) (hz : (Int8.ofInt i).toInt32 = z) (hp : pc + 2 = pc') (G : Go p e below Fin' T (mkF m pc' Ls (.int z :: S))) : Go p e below Fin' T (mkF m pc Ls S) := by
  subst hp; exact G.via fun _ k => XT.bipushV X.here C.1 rfl z (hb C.2.2.2.1 hd) hz k
theorem Go.sipush (C : Cx p s m meth c Z own nm bytes maxL ret) (X : Stand p l e R s m args below meth c T locs cells slots) {i : Int} {z : Int32} (hd : decode bytes pc = .ok (.sipush i, 3)) (hz : (Int16.ofInt i).toInt32 = z) (hp : pc + 3 = pc') (G : Go p e below Fin' T (mkF m pc' Ls (.int z :: S))) : Go p e below Fin' T (mkF m pc Ls S) := by
  subst hp; exact G.via fun _ k => XT.sipushV X.here C.1 rfl z (hb C.2.2.2.1 hd) hz k
theorem Go.lconst (C : Cx p s m meth c Z own nm bytes maxL ret) (X : Stand p l e R s m args below meth c T locs cells slots) {i : Fin 2} {z : Int64} (hd : decode bytes pc = .ok (.lconst i, 1)) (hz : Int64.ofNat i = z) (hp : pc + 1 = pc') (G : Go p e below Fin' T (mkF m pc' Ls (.long z :: S))) : Go p e below Fin' T (mkF m pc Ls S) := by
  subst hp; exact G.via fun _ k => XT.lconstV X.here C.1 rfl z (hb C.2.2.2.1 hd) hz k
theorem Go.aconstNull (C : Cx p s m meth c Z own nm bytes maxL ret) (X : Stand p l e R s m args below meth c T locs cells slots)  (hd : decode bytes pc = .ok (.aconst_null, 1))  (hp : pc + 1 = pc') (G : Go p e below Fin' T (mkF m pc' Ls (.null :: S))) : Go p e below Fin' T (mkF m pc Ls S) := by
  subst hp; exact G.via fun _ k => XS.aconstNull X.here C.1 rfl (hb C.2.2.2.1 hd) k
theorem Go.ldcI (C : Cx p s m meth c Z own nm bytes maxL ret) (X : Stand p l e R s m args below meth c T locs cells slots) {i : Nat} {z : Int32} (hd : decode bytes pc = .ok (.ldc i, 2)) (w : (Cond.constant own i z).before a0 Z = true) (hp : pc + 2 = pc') (G : Go p e below Fin' T (mkF m pc' Ls (.int z :: S))) : Go p e below Fin' T (mkF m pc Ls S) := by
  subst hp; exact G.via fun _ k => X.ldcI C.1 C.2.2.1 (mvT C.2.1 w) rfl (hb C.2.2.2.1 hd) k
theorem Go.ldc2J (C : Cx p s m meth c Z own nm bytes maxL ret) (X : Stand p l e R s m args below meth c T locs cells slots) {i : Nat} {z : Int64} (hd : decode bytes pc = .ok (.ldc2_w i, 3)) (w : (Cond.constantLong own i z).before a0 Z = true) (hp : pc + 3 = pc') (G : Go p e below Fin' T (mkF m pc' Ls (.long z :: S))) : Go p e below Fin' T (mkF m pc Ls S) := by
  subst hp; exact G.via fun _ k => X.ldc2J C.1 C.2.2.1 (mvT C.2.1 w) rfl (hb C.2.2.2.1 hd) k
theorem Go.iadd (C : Cx p s m meth c Z own nm bytes maxL ret) (X : Stand p l e R s m args below meth c T locs cells slots) {x y : Int32} (hd : decode bytes pc = .ok (.iadd, 1))  (hp : pc + 1 = pc') (G : Go p e below Fin' T (mkF m pc' Ls (.int (x + y) :: S))) : Go p e below Fin' T (mkF m pc Ls (.int y :: .int x :: S)) := by
  subst hp; exact G.via fun _ k => XS.iadd X.here C.1 rfl (hb C.2.2.2.1 hd) rfl k
theorem Go.isub (C : Cx p s m meth c Z own nm bytes maxL ret) (X : Stand p l e R s m args below meth c T locs cells slots) {x y : Int32} (hd : decode bytes pc = .ok (.isub, 1))  (hp : pc + 1 = pc') (G : Go p e below Fin' T (mkF m pc' Ls (.int (x - y) :: S))) : Go p e below Fin' T (mkF m pc Ls (.int y :: .int x :: S)) := by
  subst hp; exact G.via fun _ k => XS.isub X.here C.1 rfl (hb C.2.2.2.1 hd) rfl k
theorem Go.lsub (C : Cx p s m meth c Z own nm bytes maxL ret) (X : Stand p l e R s m args below meth c T locs cells slots) {x y : Int64} (hd : decode bytes pc = .ok (.lsub, 1))  (hp : pc + 1 = pc') (G : Go p e below Fin' T (mkF m pc' Ls (.long (x - y) :: S))) : Go p e below Fin' T (mkF m pc Ls (.long y :: .long x :: S)) := by
  subst hp; exact G.via fun _ k => XS.lsub X.here C.1 rfl (hb C.2.2.2.1 hd) rfl k
theorem Go.imul (C : Cx p s m meth c Z own nm bytes maxL ret) (X : Stand p l e R s m args below meth c T locs cells slots) {x y : Int32} (hd : decode bytes pc = .ok (.imul, 1))  (hp : pc + 1 = pc') (G : Go p e below Fin' T (mkF m pc' Ls (.int (x * y) :: S))) : Go p e below Fin' T (mkF m pc Ls (.int y :: .int x :: S)) := by
  subst hp; exact G.via fun _ k => XS.imul X.here C.1 rfl (hb C.2.2.2.1 hd) rfl k
theorem Go.iand (C : Cx p s m meth c Z own nm bytes maxL ret) (X : Stand p l e R s m args below meth c T locs cells slots) {x y : Int32} (hd : decode bytes pc = .ok (.iand, 1))  (hp : pc + 1 = pc') (G : Go p e below Fin' T (mkF m pc' Ls (.int (x &&& y) :: S))) : Go p e below Fin' T (mkF m pc Ls (.int y :: .int x :: S)) := by
  subst hp; exact G.via fun _ k => XS.iand X.here C.1 rfl (hb C.2.2.2.1 hd) rfl k
theorem Go.land (C : Cx p s m meth c Z own nm bytes maxL ret) (X : Stand p l e R s m args below meth c T locs cells slots) {x y : Int64} (hd : decode bytes pc = .ok (.land, 1))  (hp : pc + 1 = pc') (G : Go p e below Fin' T (mkF m pc' Ls (.long (x &&& y) :: S))) : Go p e below Fin' T (mkF m pc Ls (.long y :: .long x :: S)) := by
  subst hp; exact G.via fun _ k => XS.land X.here C.1 rfl (hb C.2.2.2.1 hd) rfl k
theorem Go.ior (C : Cx p s m meth c Z own nm bytes maxL ret) (X : Stand p l e R s m args below meth c T locs cells slots) {x y : Int32} (hd : decode bytes pc = .ok (.ior, 1))  (hp : pc + 1 = pc') (G : Go p e below Fin' T (mkF m pc' Ls (.int (x ||| y) :: S))) : Go p e below Fin' T (mkF m pc Ls (.int y :: .int x :: S)) := by
  subst hp; exact G.via fun _ k => XS.ior X.here C.1 rfl (hb C.2.2.2.1 hd) rfl k
theorem Go.lxor (C : Cx p s m meth c Z own nm bytes maxL ret) (X : Stand p l e R s m args below meth c T locs cells slots) {x y : Int64} (hd : decode bytes pc = .ok (.lxor, 1))  (hp : pc + 1 = pc') (G : Go p e below Fin' T (mkF m pc' Ls (.long (x ^^^ y) :: S))) : Go p e below Fin' T (mkF m pc Ls (.long y :: .long x :: S)) := by
  subst hp; exact G.via fun _ k => XS.lxor X.here C.1 rfl (hb C.2.2.2.1 hd) rfl k
theorem Go.ishl (C : Cx p s m meth c Z own nm bytes maxL ret) (X : Stand p l e R s m args below meth c T locs cells slots) {x y : Int32} (hd : decode bytes pc = .ok (.ishl, 1))  (hp : pc + 1 = pc') (G : Go p e below Fin' T (mkF m pc' Ls (.int (x <<< (y &&& 31)) :: S))) : Go p e below Fin' T (mkF m pc Ls (.int y :: .int x :: S)) := by
  subst hp; exact G.via fun _ k => XS.ishl X.here C.1 rfl (hb C.2.2.2.1 hd) rfl k
theorem Go.ishr (C : Cx p s m meth c Z own nm bytes maxL ret) (X : Stand p l e R s m args below meth c T locs cells slots) {x y : Int32} (hd : decode bytes pc = .ok (.ishr, 1))  (hp : pc + 1 = pc') (G : Go p e below Fin' T (mkF m pc' Ls (.int (x >>> (y &&& 31)) :: S))) : Go p e below Fin' T (mkF m pc Ls (.int y :: .int x :: S)) := by
  subst hp; exact G.via fun _ k => XS.ishr X.here C.1 rfl (hb C.2.2.2.1 hd) rfl k
theorem Go.iushr (C : Cx p s m meth c Z own nm bytes maxL ret) (X : Stand p l e R s m args below meth c T locs cells slots) {x y : Int32} (hd : decode bytes pc = .ok (.iushr, 1))  (hp : pc + 1 = pc') (G : Go p e below Fin' T (mkF m pc' Ls (.int ((x.toUInt32 >>> (y &&& 31).toUInt32).toInt32) :: S))) : Go p e below Fin' T (mkF m pc Ls (.int y :: .int x :: S)) := by
  subst hp; exact G.via fun _ k => XS.iushr X.here C.1 rfl (hb C.2.2.2.1 hd) rfl k
theorem Go.lshl (C : Cx p s m meth c Z own nm bytes maxL ret) (X : Stand p l e R s m args below meth c T locs cells slots) {x : Int64} {y : Int32} (hd : decode bytes pc = .ok (.lshl, 1))  (hp : pc + 1 = pc') (G : Go p e below Fin' T (mkF m pc' Ls (.long (x <<< (y &&& 0x3f).toInt64) :: S))) : Go p e below Fin' T (mkF m pc Ls (.int y :: .long x :: S)) := by
  subst hp; exact G.via fun _ k => XS.lshl X.here C.1 rfl (hb C.2.2.2.1 hd) rfl k
theorem Go.lushr (C : Cx p s m meth c Z own nm bytes maxL ret) (X : Stand p l e R s m args below meth c T locs cells slots) {x : Int64} {y : Int32} (hd : decode bytes pc = .ok (.lushr, 1))  (hp : pc + 1 = pc') (G : Go p e below Fin' T (mkF m pc' Ls (.long ((x.toUInt64 >>> (y &&& 0x3f).toInt64.toUInt64).toInt64) :: S))) : Go p e below Fin' T (mkF m pc Ls (.int y :: .long x :: S)) := by
  subst hp; exact G.via fun _ k => XS.lushr X.here C.1 rfl (hb C.2.2.2.1 hd) rfl k
theorem Go.idiv (C : Cx p s m meth c Z own nm bytes maxL ret) (X : Stand p l e R s m args below meth c T locs cells slots) {x y : Int32} (hd : decode bytes pc = .ok (.idiv, 1)) (hy : y ≠ 0) (hp : pc + 1 = pc') (G : Go p e below Fin' T (mkF m pc' Ls (.int (x / y) :: S))) : Go p e below Fin' T (mkF m pc Ls (.int y :: .int x :: S)) := by
  subst hp; exact G.via fun _ k => XS.idiv X.here C.1 rfl (hb C.2.2.2.1 hd) rfl hy k
theorem Go.irem (C : Cx p s m meth c Z own nm bytes maxL ret) (X : Stand p l e R s m args below meth c T locs cells slots) {x y : Int32} (hd : decode bytes pc = .ok (.irem, 1)) (hy : y ≠ 0) (hp : pc + 1 = pc') (G : Go p e below Fin' T (mkF m pc' Ls (.int (x % y) :: S))) : Go p e below Fin' T (mkF m pc Ls (.int y :: .int x :: S)) := by
  subst hp; exact G.via fun _ k => iremM X C.1 rfl (hb C.2.2.2.1 hd) rfl hy k
theorem Go.l2i (C : Cx p s m meth c Z own nm bytes maxL ret) (X : Stand p l e R s m args below meth c T locs cells slots) {x : Int64} (hd : decode bytes pc = .ok (.l2i, 1))  (hp : pc + 1 = pc') (G : Go p e below Fin' T (mkF m pc' Ls (.int (x.toInt32) :: S))) : Go p e below Fin' T (mkF m pc Ls (.long x :: S)) := by
  subst hp; exact G.via fun _ k => XS.l2i X.here C.1 rfl (hb C.2.2.2.1 hd) rfl k
theorem Go.i2b (C : Cx p s m meth c Z own nm bytes maxL ret) (X : Stand p l e R s m args below meth c T locs cells slots) {x : Int32} (hd : decode bytes pc = .ok (.i2b, 1))  (hp : pc + 1 = pc') (G : Go p e below Fin' T (mkF m pc' Ls (.int (x.toInt8.toInt32) :: S))) : Go p e below Fin' T (mkF m pc Ls (.int x :: S)) := by
  subst hp; exact G.via fun _ k => XS.i2b X.here C.1 rfl (hb C.2.2.2.1 hd) rfl k
theorem Go.i2c (C : Cx p s m meth c Z own nm bytes maxL ret) (X : Stand p l e R s m args below meth c T locs cells slots) {x : Int32} (hd : decode bytes pc = .ok (.i2c, 1))  (hp : pc + 1 = pc') (G : Go p e below Fin' T (mkF m pc' Ls (.int (x.toUInt32.toUInt16.toUInt32.toInt32) :: S))) : Go p e below Fin' T (mkF m pc Ls (.int x :: S)) := by
  subst hp; exact G.via fun _ k => XS.i2c X.here C.1 rfl (hb C.2.2.2.1 hd) rfl k
theorem Go.iinc (C : Cx p s m meth c Z own nm bytes maxL ret) (X : Stand p l e R s m args below meth c T locs cells slots) {k : Nat} {i : Int} {z x : Int32} (hd : decode bytes pc = .ok (.iinc k i, 3)) (hz : Int32.ofInt i = z) (hl : Ls[k]? = some (.val (.int x))) (hl' : storeLocals Ls k (.int (x + z)) = some Ls') (hp : pc + 3 = pc') (G : Go p e below Fin' T (mkF m pc' Ls' S)) : Go p e below Fin' T (mkF m pc Ls S) := by
  subst hp; exact G.via fun _ k => XT.iincV X.here C.1 rfl z (hb C.2.2.2.1 hd) hz hl hl' k
theorem Go.dup (C : Cx p s m meth c Z own nm bytes maxL ret) (X : Stand p l e R s m args below meth c T locs cells slots) {v : Value} (hd : decode bytes pc = .ok (.dup, 1)) (hc : v.category = 1) (hp : pc + 1 = pc') (G : Go p e below Fin' T (mkF m pc' Ls (v :: v :: S))) : Go p e below Fin' T (mkF m pc Ls (v :: S)) := by
  subst hp; exact G.via fun _ k => XS.dup X.here C.1 rfl (hb C.2.2.2.1 hd) rfl hc k
theorem Go.pop (C : Cx p s m meth c Z own nm bytes maxL ret) (X : Stand p l e R s m args below meth c T locs cells slots) {v : Value} (hd : decode bytes pc = .ok (.pop, 1)) (hc : v.category = 1) (hp : pc + 1 = pc') (G : Go p e below Fin' T (mkF m pc' Ls S)) : Go p e below Fin' T (mkF m pc Ls (v :: S)) := by
  subst hp; exact G.via fun _ k => XS.pop X.here C.1 rfl (hb C.2.2.2.1 hd) rfl hc k
theorem Go.dupX1 (C : Cx p s m meth c Z own nm bytes maxL ret) (X : Stand p l e R s m args below meth c T locs cells slots) {v w : Value} (hd : decode bytes pc = .ok (.dup_x1, 1)) (hc : v.category = 1) (hc' : w.category = 1) (hp : pc + 1 = pc') (G : Go p e below Fin' T (mkF m pc' Ls (v :: w :: v :: S))) : Go p e below Fin' T (mkF m pc Ls (v :: w :: S)) := by
  subst hp; exact G.via fun _ k => XS.dupX1 X.here C.1 rfl (hb C.2.2.2.1 hd) rfl hc hc' k
theorem Go.goto (C : Cx p s m meth c Z own nm bytes maxL ret) (X : Stand p l e R s m args below meth c T locs cells slots)  {o : Int} (hd : decode bytes pc = .ok (.goto o, 3))  (ho : 0 ≤ (pc : Int) + o) (hp : ((pc : Int) + o).toNat = pc') (G : Go p e below Fin' T (mkF m pc' Ls S)) : Go p e below Fin' T (mkF m pc Ls S) :=
  G.via fun _ k => XS.goto X.here C.1 rfl rfl (hb C.2.2.2.1 hd) ho hp k
theorem Go.ifYes (C : Cx p s m meth c Z own nm bytes maxL ret) (X : Stand p l e R s m args below meth c T locs cells slots) {cd : ClassFile.Cond} {x : Int32} {o : Int} (hd : decode bytes pc = .ok (.ifCond cd o, 3)) (hc : ifCond.holds cd x = true) (ho : 0 ≤ (pc : Int) + o) (hp : ((pc : Int) + o).toNat = pc') (G : Go p e below Fin' T (mkF m pc' Ls S)) : Go p e below Fin' T (mkF m pc Ls (.int x :: S)) :=
  G.via fun _ k => XS.ifYes X.here C.1 rfl rfl (hb C.2.2.2.1 hd) rfl hc ho hp k
theorem Go.ifNo (C : Cx p s m meth c Z own nm bytes maxL ret) (X : Stand p l e R s m args below meth c T locs cells slots) {cd : ClassFile.Cond} {x : Int32} {o : Int} (hd : decode bytes pc = .ok (.ifCond cd o, 3)) (hc : ifCond.holds cd x = false) (hp : pc + 3 = pc') (G : Go p e below Fin' T (mkF m pc' Ls S)) : Go p e below Fin' T (mkF m pc Ls (.int x :: S)) := by
  subst hp; exact G.via fun _ k => XS.ifNo X.here C.1 rfl (hb C.2.2.2.1 hd) rfl hc k
theorem Go.icmpYes (C : Cx p s m meth c Z own nm bytes maxL ret) (X : Stand p l e R s m args below meth c T locs cells slots) {cd : ClassFile.Cond} {x y : Int32} {o : Int} (hd : decode bytes pc = .ok (.if_icmp cd o, 3)) (hc : if_icmp.holds cd x y = true) (ho : 0 ≤ (pc : Int) + o) (hp : ((pc : Int) + o).toNat = pc') (G : Go p e below Fin' T (mkF m pc' Ls S)) : Go p e below Fin' T (mkF m pc Ls (.int y :: .int x :: S)) :=
  G.via fun _ k => XS.icmpYes X.here C.1 rfl rfl (hb C.2.2.2.1 hd) rfl hc ho hp k
theorem Go.icmpNo (C : Cx p s m meth c Z own nm bytes maxL ret) (X : Stand p l e R s m args below meth c T locs cells slots) {cd : ClassFile.Cond} {x y : Int32} {o : Int} (hd : decode bytes pc = .ok (.if_icmp cd o, 3)) (hc : if_icmp.holds cd x y = false) (hp : pc + 3 = pc') (G : Go p e below Fin' T (mkF m pc' Ls S)) : Go p e below Fin' T (mkF m pc Ls (.int y :: .int x :: S)) := by
  subst hp; exact G.via fun _ k => XS.icmpNo X.here C.1 rfl (hb C.2.2.2.1 hd) rfl hc k
theorem Go.acmpYes (C : Cx p s m meth c Z own nm bytes maxL ret) (X : Stand p l e R s m args below meth c T locs cells slots) {cd : ClassFile.ACond} {v w : Value} {o : Int} (hd : decode bytes pc = .ok (.if_acmp cd o, 3)) (hv : v.isRef = true) (hw : w.isRef = true) (hc : XT.acmp cd v w = true) (ho : 0 ≤ (pc : Int) + o) (hp : ((pc : Int) + o).toNat = pc') (G : Go p e below Fin' T (mkF m pc' Ls S)) : Go p e below Fin' T (mkF m pc Ls (w :: v :: S)) :=
  G.via fun _ k => XT.acmpYes X.here C.1 rfl rfl (hb C.2.2.2.1 hd) rfl hv hw hc ho hp k
theorem Go.acmpNo (C : Cx p s m meth c Z own nm bytes maxL ret) (X : Stand p l e R s m args below meth c T locs cells slots) {cd : ClassFile.ACond} {v w : Value} {o : Int} (hd : decode bytes pc = .ok (.if_acmp cd o, 3)) (hv : v.isRef = true) (hw : w.isRef = true) (hc : XT.acmp cd v w = false) (hp : pc + 3 = pc') (G : Go p e below Fin' T (mkF m pc' Ls S)) : Go p e below Fin' T (mkF m pc Ls (w :: v :: S)) := by
  subst hp; exact G.via fun _ k => XT.acmpNo X.here C.1 rfl (hb C.2.2.2.1 hd) rfl hv hw hc k
/-! the returns -/
theorem Go.retV (C : Cx p s m meth c Z own nm bytes maxL ret) (X : Stand p l e R s m args below meth c T locs cells slots)  (hr : ret = none) (hd : decode bytes pc = .ok (.return_, 1))  (hq : Q none T.heap locs) (hc : cells ≤ RC) (hs : slots ≤ RS) : Go p e below (Fn s RC RS Q) T (mkF m pc Ls []) := by
  have hret := C.2.2.2.2.2.1
  have hlk := C.2.2.2.2.2.2.2
  rw [hr] at hret
  obtain ⟨fs, hl, hrun, hended, hW, hsame⟩ := X.leave (v := none) (fun h => by first | rfl | (rw [hret] at h; cases h)) hlk
  exact ⟨_, _, X.returnOut C.1 hret (hb C.2.2.2.1 hd) hl, hrun, hended, _, _, rfl, hq, ⟨_, rfl⟩, hW, hsame.mono hc hs⟩
theorem Go.retN (C : Cx p s m meth c Z own nm bytes maxL ret) (X : Stand p l e R s m args below meth c T locs cells slots) {t : FieldType} {z : Int32} (hr : ret = some t) (hd : decode bytes pc = .ok (.ireturn, 1)) (ht : t = .boolean ∨ t = .byte ∨ t = .char ∨ t = .short) (hq : Q (some (.int (nar t z))) T.heap locs) (hc : cells ≤ RC) (hs : slots ≤ RS) : Go p e below (Fn s RC RS Q) T (mkF m pc Ls (.int z :: S)) := by
  have hret := C.2.2.2.2.2.1
  have hlk := C.2.2.2.2.2.2.2
  rw [hr] at hret
  obtain ⟨fs, hl, hrun, hended, hW, hsame⟩ := X.leave (v := (some (.int (nar t z)))) (fun h => by first | rfl | (rw [hret] at h; cases h)) hlk
  exact ⟨_, _, Jvm.RoadKit.retN X C.1 hret ht (hb C.2.2.2.1 hd) hl, hrun, hended, _, _, rfl, hq, ⟨_, rfl⟩, hW, hsame.mono hc hs⟩
theorem Go.retI (C : Cx p s m meth c Z own nm bytes maxL ret) (X : Stand p l e R s m args below meth c T locs cells slots) {z : Int32} (hr : ret = some .int) (hd : decode bytes pc = .ok (.ireturn, 1))  (hq : Q (some (.int z)) T.heap locs) (hc : cells ≤ RC) (hs : slots ≤ RS) : Go p e below (Fn s RC RS Q) T (mkF m pc Ls (.int z :: S)) := by
  have hret := C.2.2.2.2.2.1
  have hlk := C.2.2.2.2.2.2.2
  rw [hr] at hret
  obtain ⟨fs, hl, hrun, hended, hW, hsame⟩ := X.leave (v := (some (.int z))) (fun h => by first | rfl | (rw [hret] at h; cases h)) hlk
  exact ⟨_, _, retOut X C.1 hret rfl (Or.inl ⟨rfl, Or.inl rfl, z, rfl⟩) (hb C.2.2.2.1 hd) hl, hrun, hended, _, _, rfl, hq, ⟨_, rfl⟩, hW, hsame.mono hc hs⟩
theorem Go.retJ (C : Cx p s m meth c Z own nm bytes maxL ret) (X : Stand p l e R s m args below meth c T locs cells slots) {z : Int64} (hr : ret = some .long) (hd : decode bytes pc = .ok (.lreturn, 1))  (hq : Q (some (.long z)) T.heap locs) (hc : cells ≤ RC) (hs : slots ≤ RS) : Go p e below (Fn s RC RS Q) T (mkF m pc Ls (.long z :: S)) := by
  have hret := C.2.2.2.2.2.1
  have hlk := C.2.2.2.2.2.2.2
  rw [hr] at hret
  obtain ⟨fs, hl, hrun, hended, hW, hsame⟩ := X.leave (v := (some (.long z))) (fun h => by first | rfl | (rw [hret] at h; cases h)) hlk
  exact ⟨_, _, retOut X C.1 hret rfl (Or.inr (Or.inl ⟨rfl, rfl, z, rfl⟩)) (hb C.2.2.2.1 hd) hl, hrun, hended, _, _, rfl, hq, ⟨_, rfl⟩, hW, hsame.mono hc hs⟩
theorem Go.retA (C : Cx p s m meth c Z own nm bytes maxL ret) (X : Stand p l e R s m args below meth c T locs cells slots) {t : FieldType} {v : Value} (hr : ret = some t) (hd : decode bytes pc = .ok (.areturn, 1)) (ht : t.isReference = true) (hv : v.isRef = true) (hn : narrow t v = v) (hq : Q (some v) T.heap locs) (hc : cells ≤ RC) (hs : slots ≤ RS) : Go p e below (Fn s RC RS Q) T (mkF m pc Ls (v :: S)) := by
  have hret := C.2.2.2.2.2.1
  have hlk := C.2.2.2.2.2.2.2
  rw [hr] at hret
  obtain ⟨fs, hl, hrun, hended, hW, hsame⟩ := X.leave (v := (some v)) (fun h => by first | rfl | (rw [hret] at h; cases h)) hlk
  exact ⟨_, _, retOut X C.1 hret hn (Or.inr (Or.inr (Or.inr (Or.inr ⟨rfl, ht, hv⟩)))) (hb C.2.2.2.1 hd) hl, hrun, hended, _, _, rfl, hq, ⟨_, rfl⟩, hW, hsame.mono hc hs⟩
/-! arrays whose elements are all known -/
def AL (Z : State) (h : Heap) (a : Addr) (k : ClassId) (ty : FieldType) (vs : List Value) : Prop := ∃ c : Cell, Arr Z h a c ty ∧ c.cls = k ∧ c.slots = vs.toArray
theorem AL.lt {a : Addr} {k : ClassId} {ty : FieldType} {vs : List Value} (F : AL Z h a k ty vs) : a < h.size := by obtain ⟨c, A, -⟩ := F; exact A.lt
theorem AL.ext {h' : Heap} {a : Addr} {k : ClassId} {ty : FieldType} {vs : List Value} (E : Ext h h') (F : AL Z h a k ty vs) : AL Z h' a k ty vs := by obtain ⟨c, A, r⟩ := F; exact ⟨c, A.ext E, r⟩
theorem AL.other {h' : Heap} {a b : Addr} {sl : Nat} {v : Value} {k : ClassId} {ty : FieldType} {vs : List Value} (W : Wr h h' a sl v) (F : AL Z h b k ty vs) (q : b ≠ a) : AL Z h' b k ty vs := by obtain ⟨c, A, r⟩ := F; exact ⟨c, A.other W q, r⟩
theorem AL.keep {h' : Heap} {a : Addr} {ws : List Addr} {k : ClassId} {ty : FieldType} {vs : List Value} (F : AL Z h a k ty vs) (K : Keep h h' ws) (q : a ∉ ws) : AL Z h' a k ty vs := by obtain ⟨c, A, r⟩ := F; exact ⟨c, ⟨K.2.1 a c A.1 q, A.2⟩, r⟩
theorem AL.set {h' : Heap} {a : Addr} {i : Nat} {v : Value} {k : ClassId} {ty : FieldType} {vs : List Value} (F : AL Z h a k ty vs) (W : Wr h h' a i v) : AL Z h' a k ty (vs.set i v) := by
  obtain ⟨c, A, r1, r2⟩ := F
  exact ⟨_, A.same W, r1, by simp [Cell.setSlot, r2]⟩
theorem AL.new {a : Addr} {k : ClassId} {ty : FieldType} {n : Int32} (A : Arr Z h a (newA k ty n) ty) : AL Z h a k ty (List.replicate n.toNatClampNeg (defaultValue ty)) := ⟨_, A, rfl, by simp [newA]⟩
theorem AL.arv {a : Addr} {k : ClassId} {ty : FieldType} {n : Int32} {vs : List Value} {dv : Value} (F : AL Z h a k ty vs) (hn : ¬ n < 0) (hl : n.toNatClampNeg = vs.length) (hf : ∀ v ∈ vs, fits ty v = true) : Arv Z h a k ty n vs dv := by
  obtain ⟨c, A, r1, r2⟩ := F
  refine ⟨c, A, r1, by rw [r2]; simp [hl], hn, fun i hi => ?_, fun i hi => ?_⟩
  · have hi' : i < vs.length := by simpa [r2] using hi
    simp [r2, List.getD, List.getElem?_eq_getElem hi']
  · have hi' : i < vs.length := by simpa [r2] using hi
    have q : vs.getD i dv = vs[i] := by simp [List.getD, List.getElem?_eq_getElem hi']
    rw [q]; exact hf _ (List.getElem_mem hi')
theorem AL.of_arv {a : Addr} {k : ClassId} {ty : FieldType} {n : Int32} {vs : List Value} {dv : Value} (F : Arv Z h a k ty n vs dv) (hl : n.toNatClampNeg = vs.length) : AL Z h a k ty vs := by
  obtain ⟨c, A, r1, r2, -, H, -⟩ := F
  refine ⟨c, A, r1, ?_⟩
  apply Array.ext_getElem?
  intro i
  by_cases hi : i < c.slots.size
  · have hi' : i < vs.length := by omega
    rw [H i hi]
    simp [List.getD, List.getElem?_eq_getElem hi']
  · have hi' : vs.length ≤ i := by omega
    rw [Array.getElem?_eq_none (by omega)]
    simp [List.getElem?_eq_none hi']
theorem Sta.old {n d K1 : String} {v : Value} (F : Sta Z Z.heap K1 n d v) (O : Ext Z.heap h) : Sta Z h K1 n d v := F.ext O
theorem Ext.trans {h1 h2 h3 : Heap} (E : Ext h1 h2) (E' : Ext h2 h3) : Ext h1 h3 := ⟨Nat.le_trans E.1 E'.1, fun x c q => E'.2 x c (E.2 x c q)⟩
theorem Ext.refl (h : Heap) : Ext h h := ⟨Nat.le_refl _, fun _ _ q => q⟩
theorem Ext.wr {h1 h2 h3 : Heap} {a : Addr} {sl : Nat} {v : Value} (E : Ext h1 h2) (W : Wr h2 h3 a sl v) (q : h1.size ≤ a) : Ext h1 h3 := by
  refine ⟨by rw [W.size]; exact E.1, fun x c hx => ?_⟩
  obtain ⟨c', e1, -, -, -, e5, -⟩ := wr_at W (E.2 x c hx)
  have ne : x ≠ a := fun e => absurd (Array.getElem?_eq_some_iff.mp hx).1 (by rw [e]; exact Nat.not_lt.mpr q)
  rw [← e5 ne]; exact e1
theorem Ext.keep {h1 h2 h3 : Heap} {ws : List Addr} (E : Ext h1 h2) (K : Keep h2 h3 ws) (q : ∀ x ∈ ws, h1.size ≤ x) : Ext h1 h3 := ⟨Nat.le_trans E.1 K.1, fun x c hx => K.2.1 x c (E.2 x c hx) fun z => absurd (Array.getElem?_eq_some_iff.mp hx).1 (Nat.not_lt.mpr (q x z))⟩
theorem Keep.toExt {h1 h2 : Heap} (K : Keep h1 h2 []) : Ext h1 h2 := ⟨K.1, fun x c hx => K.2.1 x c hx (fun z => nomatch z)⟩
theorem Keep.of_ext {h1 h2 : Heap} {ws : List Addr} (E : Ext h1 h2) : Keep h1 h2 ws := (Keep.refl h1 ws).ext E
theorem Keep.drop {h1 h2 : Heap} {ws ws' : List Addr} (K : Keep h1 h2 ws) (q : ∀ x ∈ ws, x ∈ ws' ∨ h1.size ≤ x) : Keep h1 h2 ws' := (Keep.refl h1 ws').trans K q
theorem Ins.keep {h' : Heap} {a : Addr} {ws : List Addr} {K1 : String} {bo : Bool} (F : Ins Z h a K1 bo) (K : Keep h h' ws) : Ins Z h' a K1 bo := by
  obtain ⟨cell, cT, h1, h2, h3⟩ := F
  obtain ⟨c', e1, e2, e3, -⟩ := K.2.2 _ _ h1
  exact ⟨c', cT, e1, h2, by rw [e2, e3]; exact h3⟩
/-! steps that read the tables or the heap -/
theorem Go.getF (C : Cx p s m meth c Z own nm bytes maxL ret) (X : Stand p l e R s m args below meth c T locs cells slots) {idx : Nat} {R0 O n d host : String} {a : Addr} {v : Value} (w : (Cond.fieldLink own idx R0 n d).before a0 Z = true ∨ (Cond.fieldLinkNest own idx R0 n d host).before a0 Z = true) (via : Via Z R0 O n d) (eT : T.heap = h) (F : Fld Z h a O n d v) (hd : decode bytes pc = .ok (.getfield idx, 3)) (hp : pc + 3 = pc')
    (K : ∀ T', Stand p l e R s m args below meth c T' locs cells slots → T'.heap = h → Go p e below Fin' T' (mkF m pc' Ls (v :: S))) : Go p e below Fin' T (mkF m pc Ls (.ref a :: S)) := by
  subst hp
  obtain ⟨T', X', e', st⟩ := Jvm.RoadKit.getF X C.1 C.2.1 C.2.2.1 w via eT F (g := mkF m pc Ls (.ref a :: S)) rfl rfl (hb C.2.2.2.1 hd)
  exact (K T' X' e').via st
theorem Go.getS (C : Cx p s m meth c Z own nm bytes maxL ret) (X : Stand p l e R s m args below meth c T locs cells slots) {idx : Nat} {R0 O n d host : String} {v : Value} (w : (Cond.fieldLink own idx R0 n d).before a0 Z = true ∨ (Cond.fieldLinkNest own idx R0 n d host).before a0 Z = true) (via : Via Z R0 O n d) (eT : T.heap = h) (F : Sta Z h O n d v) (hd : decode bytes pc = .ok (.getstatic idx, 3)) (hp : pc + 3 = pc')
    (K : ∀ T', Stand p l e R s m args below meth c T' locs cells slots → T'.heap = h → Go p e below Fin' T' (mkF m pc' Ls (v :: S))) : Go p e below Fin' T (mkF m pc Ls S) := by
  subst hp
  obtain ⟨T', X', e', st⟩ := getS2 X C.1 C.2.1 C.2.2.1 w via eT F (g := mkF m pc Ls S) rfl (hb C.2.2.2.1 hd)
  exact (K T' X' e').via st
theorem Go.putF (C : Cx p s m meth c Z own nm bytes maxL ret) (X : Stand p l e R s m args below meth c T locs cells slots) {idx kk : Nat} {R0 O n d host K1 : String} {a : Addr} {v old : Value} {ty : FieldType} (w : (Cond.fieldLink own idx R0 n d).before a0 Z = true ∨ (Cond.fieldLinkNest own idx R0 n d host).before a0 Z = true) (via : Via Z R0 O n d) (eT : T.heap = h) (F : Fld Z h a O n d old) (E : Exa Z h a K1) (L : (Cond.lays K1 O n d).before a0 Z = true ∨ ((Cond.laysFinal K1 O n d).before a0 Z = true ∧ own = O ∧ nm = "<init>")) (wi : (Cond.instantiable K1 kk).before a0 Z = true) (hty : parseFieldDescriptor d = some ty) (hn : narrow ty v = v) (hf : fits ty v = true) (hd : decode bytes pc = .ok (.putfield idx, 3)) (hp : pc + 3 = pc')
    (K : ∀ T' h', Stand p l e R s m args below meth c T' (locs ++ [⟨a, slotOf Z O n d⟩]) cells slots → T'.heap = h' → Wr h h' a (slotOf Z O n d) v → Fld Z h' a O n d v → Go p e below Fin' T' (mkF m pc' Ls S)) : Go p e below Fin' T (mkF m pc Ls (v :: .ref a :: S)) := by
  subst hp
  obtain ⟨T', h', X', e', W', st⟩ := Jvm.RoadKit.putF X C.1 C.2.1 C.2.2.1 w via eT F E (L.imp id fun q => ⟨q.1, q.2.1, C.2.2.2.2.2.2.1.trans q.2.2⟩) wi hty hn hf (g := mkF m pc Ls (v :: .ref a :: S)) rfl rfl (hb C.2.2.2.1 hd)
  exact (K T' h' X' e' W' (F.same W')).via st
theorem Go.putFN (C : Cx p s m meth c Z own nm bytes maxL ret) (X : Stand p l e R s m args below meth c T locs cells slots) {idx kk : Nat} {R0 O n d K1 : String} {a : Addr} {v v' old : Value} {ty : FieldType} (w : (Cond.fieldLink own idx R0 n d).before a0 Z = true) (via : Via Z R0 O n d) (eT : T.heap = h) (F : Fld Z h a O n d old) (E : Exa Z h a K1) (L : (Cond.lays K1 O n d).before a0 Z = true ∨ ((Cond.laysFinal K1 O n d).before a0 Z = true ∧ own = O ∧ nm = "<init>")) (wi : (Cond.instantiable K1 kk).before a0 Z = true) (hty : parseFieldDescriptor d = some ty) (hn : narrow ty v = v') (hf : fits ty v' = true) (hd : decode bytes pc = .ok (.putfield idx, 3)) (hp : pc + 3 = pc')
    (K : ∀ T' h', Stand p l e R s m args below meth c T' (locs ++ [⟨a, slotOf Z O n d⟩]) cells slots → T'.heap = h' → Wr h h' a (slotOf Z O n d) v' → Fld Z h' a O n d v' → Go p e below Fin' T' (mkF m pc' Ls S)) : Go p e below Fin' T (mkF m pc Ls (v :: .ref a :: S)) := by
  subst hp
  obtain ⟨T', h', X', e', W', st⟩ := Jvm.RoadKit.putFN X C.1 C.2.1 C.2.2.1 w via eT F E (L.imp id fun q => ⟨q.1, q.2.1, C.2.2.2.2.2.2.1.trans q.2.2⟩) wi hty hn hf (g := mkF m pc Ls (v :: .ref a :: S)) rfl rfl (hb C.2.2.2.1 hd)
  exact (K T' h' X' e' W' (F.same W')).via st
theorem Go.newO (C : Cx p s m meth c Z own nm bytes maxL ret) (X : Stand p l e R s m args below meth c T locs cells slots) {idx n : Nat} {K1 : String} (w : (Cond.classLink own idx K1).before a0 Z = true) (wi : (Cond.instantiable K1 n).before a0 Z = true) (wz : (Cond.initialized K1).before a0 Z = true) (eT : T.heap = h) (hc : cells + 1 ≤ R.cells) (hl : slots + n ≤ R.slots) (hd : decode bytes pc = .ok (.new idx, 3)) (hp : pc + 3 = pc')
    (K : ∀ T' h' b, Stand p l e R s m args below meth c T' locs (cells + 1) (slots + n) → T'.heap = h' → b = h.size → Ext h h' → Exa Z h' b K1 → (∀ {O nm d : String} {ty : FieldType}, Laid Z a0 K1 O nm d → parseFieldDescriptor d = some ty → Fld Z h' b O nm d (defaultValue ty)) → Go p e below Fin' T' (mkF m pc' Ls (.ref b :: S))) : Go p e below Fin' T (mkF m pc Ls S) := by
  subst hp
  obtain ⟨T', h', X', e', E', A', D', -, st⟩ := Jvm.RoadKit.newO X C.1 C.2.1 C.2.2.1 w wi wz eT (g := mkF m pc Ls S) rfl (hb C.2.2.2.1 hd) hc hl
  exact (K T' h' h.size X' e' rfl E' A' D').via st
theorem Go.newP (C : Cx p s m meth c Z own nm bytes maxL ret) (X : Stand p l e R s m args below meth c T locs cells slots) {aty : ArrayType} {n : Int32} {cap : Nat} {vs : List Value} {ad : String} (had : "[" ++ (newarray.typeOf aty).toString = ad) (w : (Cond.arrayClass (newarray.typeOf aty)).before a0 Z = true) (eT : T.heap = h) (hn : ¬ n < 0) (hcap : n.toNatClampNeg ≤ cap) (hb8 : cap * 8 ≤ 536870912) (hc : cells + 1 ≤ R.cells) (hl : slots + cap ≤ R.slots) (hvs : List.replicate n.toNatClampNeg (defaultValue (newarray.typeOf aty)) = vs) (hd : decode bytes pc = .ok (.newarray aty, 2)) (hp : pc + 2 = pc')
    (K : ∀ T' h' b k, Stand p l e R s m args below meth c T' locs (cells + 1) (slots + cap) → T'.heap = h' → b = h.size → Ext h h' → AL Z h' b k (newarray.typeOf aty) vs → Exa Z h' b ad → Go p e below Fin' T' (mkF m pc' Ls (.ref b :: S))) : Go p e below Fin' T (mkF m pc Ls (.int n :: S)) := by
  subst hp
  obtain ⟨T', h', k, X', e', E', A', E2, st⟩ := Jvm.RoadKit.newPE X C.1 C.2.1 w eT (g := mkF m pc Ls (.int n :: S)) rfl (hb C.2.2.2.1 hd) rfl hn hcap hb8 hc hl had
  exact (K T' h' h.size k X' e' rfl E' (hvs ▸ AL.new A') E2).via st
theorem AL.stoA {a y : Addr} {k : ClassId} {t0 ty : FieldType} {vs : List Value} {K1 : String} (F : AL Z h a k t0 vs) (O : OvrA Z k ty K1) (I : Ins Z h y K1 true) : Sto Z h a (.ref y) := by
  obtain ⟨c, A, r, -⟩ := F; exact Sto.ofVA A r O I
theorem Go.clone (C : Cx p s m meth c Z own nm bytes maxL ret) (X : Stand p l e R s m args below meth c T locs cells slots) {idx : Nat} {ad : String} {a : Addr} {k : ClassId} {ty : FieldType} {vs : List Value} {W cap : Nat} (w1 : (Cond.methodLink own idx ⟨ad, "clone", "()Ljava/lang/Object;"⟩).before a0 Z = true) (w2 : (Cond.sameMethod ad "java/lang/Object" "clone" "()Ljava/lang/Object;").before a0 Z = true) (w3 : (Cond.native ⟨"java/lang/Object", "clone", "()Ljava/lang/Object;"⟩).before a0 Z = true) (w4 : (Cond.instanceMethod ⟨"java/lang/Object", "clone", "()Ljava/lang/Object;"⟩).before a0 Z = true) (w5 : (Cond.selects ad ⟨ad, "clone", "()Ljava/lang/Object;"⟩ ⟨"java/lang/Object", "clone", "()Ljava/lang/Object;"⟩).before a0 Z = true) (w6 : (Cond.castable ad "java/lang/Cloneable").before a0 Z = true) (eT : T.heap = h) (F : AL Z h a k ty vs) (E : Exa Z h a ad) (hfit : ∀ v ∈ vs, fits ty v = true) (hls : Ls.size = maxL) (hf : 1 ≤ R.frames) (hW : (S.map fun v => v.category).sum ≤ W) (hlo : W + 14 ≤ R.locals) (hcap : vs.length ≤ cap) (hc : cells + 1 ≤ R.cells) (hsl : slots + cap ≤ R.slots) (hd : decode bytes pc = .ok (.invokevirtual idx, 3)) (hp : pc + 3 = pc')
    (K : ∀ T' h' b, Stand p l e R s m args below meth c T' locs (cells + 1) (slots + cap) → T'.heap = h' → b = h.size → Ext h h' → AL Z h' b k ty vs → Exa Z h' b ad → Go p e below Fin' T' (mkF m pc' Ls (.ref b :: S))) : Go p e below Fin' T (mkF m pc Ls (.ref a :: S)) := by
  subst hp
  obtain ⟨cl, A, q1, q2⟩ := F
  have FC : FitC Z cl := fitC_of A fun i hi v hv => by
    rw [q2] at hv
    exact hfit v (List.mem_of_getElem? (by simpa using hv))
  have hsz : cl.slots.size = vs.length := by rw [q2]; simp
  obtain ⟨T', h', X', e', ex, A', E', st⟩ := cloneA X C.1 C.2.1 C.2.2.1 w1 w2 w3 w4 w5 w6 eT A E FC (g := mkF m pc Ls (.ref a :: S)) rfl (by show Ls.size = _; rw [C.2.2.2.2.1]; exact hls) rfl (hb C.2.2.2.1 hd) hf (W := W) (by show 2 * 0 + _ ≤ _; omega) hlo (cap := cap) (by omega) hc hsl
  exact (K T' h' h.size X' e' rfl ex ⟨cloneOf cl, A', q1, q2⟩ E').via st
theorem range_drop (vs : List Value) (dv : Value) (i n : Nat) (hn : i + n ≤ vs.length) : ((List.range n).map fun j => vs.getD (i + j) dv) = (vs.drop i).take n := by
  apply List.ext_getElem
  · simp; omega
  · intro j h1 h2
    have h3 : i + j < vs.length := by simp at h1; omega
    simp [List.getD, List.getElem?_eq_getElem h3]
theorem Go.castY (C : Cx p s m meth c Z own nm bytes maxL ret) (X : Stand p l e R s m args below meth c T locs cells slots) {idx : Nat} {K1 : String} {a : Addr} (w : (Cond.classLink own idx K1).before a0 Z = true) (eT : T.heap = h) (F : Ins Z h a K1 true) (hd : decode bytes pc = .ok (.checkcast idx, 3)) (hp : pc + 3 = pc')
    (K : ∀ T', Stand p l e R s m args below meth c T' locs cells slots → T'.heap = h → Go p e below Fin' T' (mkF m pc' Ls (.ref a :: S))) : Go p e below Fin' T (mkF m pc Ls (.ref a :: S)) := by
  subst hp
  obtain ⟨T', X', e', st⟩ := Jvm.RoadKit.castY X C.1 C.2.1 C.2.2.1 w eT F (g := mkF m pc Ls (.ref a :: S)) rfl rfl (hb C.2.2.2.1 hd)
  exact (K T' X' e').via st
theorem Go.instY (C : Cx p s m meth c Z own nm bytes maxL ret) (X : Stand p l e R s m args below meth c T locs cells slots) {idx : Nat} {K1 : String} {a : Addr} (w : (Cond.classLink own idx K1).before a0 Z = true) (eT : T.heap = h) (F : Ins Z h a K1 true) (hd : decode bytes pc = .ok (.instanceof idx, 3)) (hp : pc + 3 = pc')
    (K : ∀ T', Stand p l e R s m args below meth c T' locs cells slots → T'.heap = h → Go p e below Fin' T' (mkF m pc' Ls (.int 1 :: S))) : Go p e below Fin' T (mkF m pc Ls (.ref a :: S)) := by
  subst hp
  obtain ⟨T', X', e', st⟩ := Jvm.RoadKit.instY X C.1 C.2.1 C.2.2.1 w eT F (g := mkF m pc Ls (.ref a :: S)) rfl rfl (hb C.2.2.2.1 hd)
  exact (K T' X' e').via st
theorem NS.rootI {O K1 : String} {n : Nat} (w : (Cond.noSuperclass O).before a0 Z = true) (wk : (Cond.instantiable K1 n).before a0 Z = true) (hn : O ≠ K1) : NS Z O K1 := by
  obtain ⟨c, k, h1, h2, h3, -, -⟩ := Cond.noSuperclass_spec w
  obtain ⟨t, -, g1, -⟩ := Cond.instantiable_spec wk
  have ne := ids_ne h1 g1 hn
  refine ⟨c, t, h1, g1, fun fuel => ?_⟩
  cases fuel with
  | zero => rfl
  | succ f => simp [Vm.isSubclassAux, ne, h2, h3]
theorem NS.noI {K0 S0 K1 : String} {n : Nat} (w : (Cond.superclass K0 S0).before a0 Z = true) (wk : (Cond.instantiable K1 n).before a0 Z = true) (N : NS Z K0 K1) (hn : K0 ≠ K1) : ∃ c t, Z.vm.findClass K0 = some c ∧ Z.vm.findClass K1 = some t ∧ Z.vm.assignable c t = false := by
  obtain ⟨c, t, h0, g0, n3⟩ := N
  obtain ⟨p, k, kp, h1, h2, h3, h4, h5, -, h7⟩ := Cond.superclass_spec h0 w
  obtain ⟨t', k', g1, g2, g3, g4, -⟩ := Cond.instantiable_spec wk
  cases g0.symm.trans g1
  have ne := ids_ne h0 g0 hn
  have gi : k'.isInterface = false := by
    cases q : k'.isInterface with
    | false => rfl
    | true => simp [q] at g4
  refine ⟨c, t, h0, g0, ?_⟩
  show Z.vm.assignableAux (255 + 1) c t = false
  simp [Vm.assignableAux, ne, h2, g2, h5, g3, gi, Vm.isSubclass, n3]
theorem Go.instNull (C : Cx p s m meth c Z own nm bytes maxL ret) (X : Stand p l e R s m args below meth c T locs cells slots) {idx : Nat}  (hd : decode bytes pc = .ok (.instanceof idx, 3)) (hp : pc + 3 = pc')
    (K : Go p e below Fin' T (mkF m pc' Ls (.int 0 :: S))) : Go p e below Fin' T (mkF m pc Ls (.null :: S)) := by
  subst hp
  exact K.via (X.instanceofNull C.1 (g := mkF m pc Ls (.null :: S)) rfl rfl (hb C.2.2.2.1 hd))
theorem Go.stC (C : Cx p s m meth c Z own nm bytes maxL ret) (X : Stand p l e R s m args below meth c T locs cells slots) {a : Addr} {k : ClassId} {vs vs' : List Value} {j : Int32} {i : Nat} {x x' : Int32} (eT : T.heap = h) (F : AL Z h a k .char vs) (hj : ¬ j < 0) (hji : j.toNatClampNeg = i) (hi : i < vs.length) (hx : (nar .char x) = x') (hvs : vs.set i (.int x') = vs') (hd : decode bytes pc = .ok (.castore, 1)) (hp : pc + 1 = pc')
    (K : ∀ T' h', Stand p l e R s m args below meth c T' (locs ++ [⟨a, i⟩]) cells slots → T'.heap = h' → Wr h h' a i (.int x') → AL Z h' a k .char vs' → Go p e below Fin' T' (mkF m pc' Ls S)) : Go p e below Fin' T (mkF m pc Ls (.int x :: .int j :: .ref a :: S)) := by
  subst hp
  subst hji hvs hx
  have F0 := F
  obtain ⟨cl, A, q1, q2⟩ := F
  obtain ⟨T', h', X', e', W', st⟩ := Jvm.RoadKit.stC X C.1 C.2.1 eT A (j := j) (fun q => q.elim hj fun y => by rw [q2] at y; simp at y; omega) (g := mkF m pc Ls (.int x :: .int j :: .ref a :: S)) rfl rfl (hb C.2.2.2.1 hd)
  exact (K T' h' X' e' W' (F0.set W')).via st
theorem Go.stB (C : Cx p s m meth c Z own nm bytes maxL ret) (X : Stand p l e R s m args below meth c T locs cells slots) {a : Addr} {k : ClassId} {vs vs' : List Value} {j : Int32} {i : Nat} {x x' : Int32} (eT : T.heap = h) (F : AL Z h a k .byte vs) (hj : ¬ j < 0) (hji : j.toNatClampNeg = i) (hi : i < vs.length) (hx : (nar .byte x) = x') (hvs : vs.set i (.int x') = vs') (hd : decode bytes pc = .ok (.bastore, 1)) (hp : pc + 1 = pc')
    (K : ∀ T' h', Stand p l e R s m args below meth c T' (locs ++ [⟨a, i⟩]) cells slots → T'.heap = h' → Wr h h' a i (.int x') → AL Z h' a k .byte vs' → Go p e below Fin' T' (mkF m pc' Ls S)) : Go p e below Fin' T (mkF m pc Ls (.int x :: .int j :: .ref a :: S)) := by
  subst hp
  subst hji hvs hx
  have F0 := F
  obtain ⟨cl, A, q1, q2⟩ := F
  obtain ⟨T', h', X', e', W', st⟩ := Jvm.RoadKit.stB X C.1 C.2.1 eT A (j := j) (fun q => q.elim hj fun y => by rw [q2] at y; simp at y; omega) (g := mkF m pc Ls (.int x :: .int j :: .ref a :: S)) rfl rfl (hb C.2.2.2.1 hd)
  exact (K T' h' X' e' W' (F0.set W')).via st
theorem AL.sto {a y : Addr} {k : ClassId} {ty : FieldType} {vs : List Value} {K1 : String} (F : AL Z h a k ty vs) (O : Ovr Z k K1) (I : Ins Z h y K1 true) : Sto Z h a (.ref y) := by
  obtain ⟨c, A, r, -⟩ := F; exact Sto.ofV A r O I
theorem Go.ldC (C : Cx p s m meth c Z own nm bytes maxL ret) (X : Stand p l e R s m args below meth c T locs cells slots) {a : Addr} {k : ClassId} {vs : List Value} {j : Int32} {i : Nat} {v : Value} (eT : T.heap = h) (F : AL Z h a k .char vs) (hj : ¬ j < 0) (hji : j.toNatClampNeg = i) (hv : vs[i]? = some v) (hd : decode bytes pc = .ok (.caload, 1)) (hp : pc + 1 = pc')
    (K : Go p e below Fin' T (mkF m pc' Ls (v :: S))) : Go p e below Fin' T (mkF m pc Ls (.int j :: .ref a :: S)) := by
  subst hp
  subst hji
  obtain ⟨cl, A, q1, q2⟩ := F
  have hlt : j.toNatClampNeg < vs.length := (List.getElem?_eq_some_iff.mp hv).1
  exact K.via fun t k => X.caload C.1 (j := j) (v := v) (by rw [eT]; exact A.1) (State.isArrayOf_alike C.2.1.alike A.2.1) A.2.2 (fun q => q.elim hj fun y => by rw [q2] at y; simp at y; omega) (by rw [q2]; simpa using hv) (g := mkF m pc Ls (.int j :: .ref a :: S)) rfl rfl (hb C.2.2.2.1 hd) t k
theorem Go.ldB (C : Cx p s m meth c Z own nm bytes maxL ret) (X : Stand p l e R s m args below meth c T locs cells slots) {a : Addr} {k : ClassId} {vs : List Value} {j : Int32} {i : Nat} {v : Value} (eT : T.heap = h) (F : AL Z h a k .byte vs) (hj : ¬ j < 0) (hji : j.toNatClampNeg = i) (hv : vs[i]? = some v) (hd : decode bytes pc = .ok (.baload, 1)) (hp : pc + 1 = pc')
    (K : Go p e below Fin' T (mkF m pc' Ls (v :: S))) : Go p e below Fin' T (mkF m pc Ls (.int j :: .ref a :: S)) := by
  subst hp
  subst hji
  obtain ⟨cl, A, q1, q2⟩ := F
  have hlt : j.toNatClampNeg < vs.length := (List.getElem?_eq_some_iff.mp hv).1
  exact K.via fun t k => X.baloadBytes C.1 (j := j) (v := v) (by rw [eT]; exact A.1) (State.isArrayOf_alike C.2.1.alike A.2.1) A.2.2 (fun q => q.elim hj fun y => by rw [q2] at y; simp at y; omega) (by rw [q2]; simpa using hv) (g := mkF m pc Ls (.int j :: .ref a :: S)) rfl rfl (hb C.2.2.2.1 hd) t k
theorem Go.alen (C : Cx p s m meth c Z own nm bytes maxL ret) (X : Stand p l e R s m args below meth c T locs cells slots) {a : Addr} {k : ClassId} {ty : FieldType} {vs : List Value} {z : Int32} (eT : T.heap = h) (F : AL Z h a k ty vs) (hz : vs.length.toInt32 = z) (hd : decode bytes pc = .ok (.arraylength, 1)) (hp : pc + 1 = pc')
    (K : Go p e below Fin' T (mkF m pc' Ls (.int z :: S))) : Go p e below Fin' T (mkF m pc Ls (.ref a :: S)) := by
  subst hp
  subst hz
  obtain ⟨cl, A, q1, q2⟩ := F
  have q3 : cl.slots.size = vs.length := by rw [q2]; simp
  refine K.via fun t k => X.arraylength C.1 (by rw [eT]; exact A.1) (State.isArrayOf_alike C.2.1.alike A.2.1) (g := mkF m pc Ls (.ref a :: S)) rfl rfl (hb C.2.2.2.1 hd) t ?_
  rw [q3]; exact k
/-! calls -/
theorem Go.initO (C : Cx p s m meth c Z own nm bytes maxL ret) (X : Stand p l e R s m args below meth c T locs cells slots) {idx : Nat} {a : Addr} (w1 : (Cond.methodLink own idx Lib.objectInit).before a0 Z = true) (w2 : (Cond.instanceMethod Lib.objectInit).before a0 Z = true) (w3 : (Cond.code Lib.objectInit ⟨#[0xb1]⟩ 1 none).before a0 Z = true) (eT : T.heap = h) (hls : Ls.size = maxL) (hf : 1 ≤ R.frames) {W : Nat} (hW : (S.map fun v => v.category).sum ≤ W) (hl : W + 12 ≤ R.locals) (hd : decode bytes pc = .ok (.invokespecial idx, 3)) (hp : pc + 3 = pc')
    (K : ∀ T', Stand p l e R s m args below meth c T' locs cells slots → T'.heap = h → Go p e below Fin' T' (mkF m pc' Ls S)) : Go p e below Fin' T (mkF m pc Ls (.ref a :: S)) := by
  subst hp
  obtain ⟨T', X', e', st⟩ := Jvm.RoadKit.initO X C.1 C.2.1 C.2.2.1 w1 w2 w3 eT (g := mkF m pc Ls (.ref a :: S)) rfl (by rw [C.2.2.2.2.1]; exact hls) rfl (hb C.2.2.2.1 hd) hf (W := W) (by show 2 * 0 + _ ≤ _; omega) hl
  exact (K T' X' e').via st
theorem Go.callS (C : Cx p s m meth c Z own nm bytes maxL ret) (X : Stand p l e R s m args below meth c T locs cells slots) {idx : Nat} {y : MethodName} {bytes' : ByteArray} {maxL' : Nat} {ret' : Option FieldType} {rm : Room} {as' : Array Value} {Q' : Option Value → Heap → List Loc → Prop} {argsL rest : List Value} {ps : List FieldType} {r : Option FieldType} {W : Nat} (w1 : (Cond.methodLink own idx y).before a0 Z = true) (w2 : (Cond.static y).before a0 Z = true) (hy : y.cls ≠ "java/lang/invoke/MethodHandle" ∧ y.cls ≠ "java/lang/invoke/VarHandle") (M : Met1 l Z y bytes' maxL' ret' rm as' h Q') (wc : (Cond.code y bytes' maxL' ret').before a0 Z = true) (wz : (Cond.initialized y.cls).before a0 Z = true) (eT : T.heap = h) (hS : S = argsL.reverse ++ rest) (has : (argsL).toArray = as') (pd : parseMethodDescriptor y.desc = some ⟨ps, r⟩) (hlen : argsL.length = ps.length) (hW : (rest.map fun v => v.category).sum ≤ W) (hls : Ls.size = maxL) (hf : rm.frames + 1 ≤ R.frames) (hlo : W + (maxL' + 11) + rm.locals ≤ R.locals) (hc : cells + rm.cells ≤ R.cells) (hs : slots + rm.slots ≤ R.slots) (hd : decode bytes pc = .ok (.invokestatic idx, 3)) (hp : pc + 3 = pc')
    (K : ∀ T' v L, Stand p l e R s m args below meth c T' (locs ++ L) (cells + rm.cells) (slots + rm.slots) → Q' v T'.heap L → Go p e below Fin' T' (mkF m pc' Ls (v.toList ++ rest))) : Go p e below Fin' T (mkF m pc Ls S) := by
  subst hp
  subst hS has
  obtain ⟨v, _, ⟨T', L', k', n'⟩, -, X', ⟨L, hQ, l', y', z'⟩, st⟩ := Jvm.LawKit.callS X C.1 (y := y) C.2.2.1 (mvT C.2.1 w1) (mvT C.2.1 w2) (mvT C.2.1 wz) (mvT C.2.1 wc) hy (backOf (W := W) (M []) C.2.1 wc wz hf hlo) (g := mkF m pc Ls (argsL.reverse ++ rest)) rfl (by show Ls.size = _; rw [C.2.2.2.2.1]; exact hls) (argsL := argsL) (rest := rest) (lenOf pd hlen) rfl (by show 2 * 0 + _ ≤ _; omega) (hb C.2.2.2.1 hd) (fun _ _ => ⟨rfl, eT, hc, hs⟩)
  dsimp only [Pt.U, Pt.locs, Pt.cells, Pt.slots] at X' l' y' z' st hQ
  subst l' y' z'
  exact (K T' v L X' hQ).via st
theorem Go.callI (C : Cx p s m meth c Z own nm bytes maxL ret) (X : Stand p l e R s m args below meth c T locs cells slots) {idx : Nat} {y : MethodName} {a : Addr} {bytes' : ByteArray} {maxL' : Nat} {ret' : Option FieldType} {rm : Room} {as' : Array Value} {Q' : Option Value → Heap → List Loc → Prop} {argsL rest : List Value} {ps : List FieldType} {r : Option FieldType} {W : Nat} (hini : y.name = "<init>") (w1 : (Cond.methodLink own idx y).before a0 Z = true) (w2 : (Cond.instanceMethod y).before a0 Z = true) (hy : y.cls ≠ "java/lang/invoke/MethodHandle" ∧ y.cls ≠ "java/lang/invoke/VarHandle") (M : Met1 l Z y bytes' maxL' ret' rm as' h Q') (wc : (Cond.code y bytes' maxL' ret').before a0 Z = true) (wz : (Cond.initialized y.cls).before a0 Z = true) (eT : T.heap = h) (hS : S = argsL.reverse ++ .ref a :: rest) (has : (.ref a :: argsL).toArray = as') (pd : parseMethodDescriptor y.desc = some ⟨ps, r⟩) (hlen : argsL.length = ps.length) (hW : (rest.map fun v => v.category).sum ≤ W) (hls : Ls.size = maxL) (hf : rm.frames + 1 ≤ R.frames) (hlo : W + (maxL' + 11) + rm.locals ≤ R.locals) (hc : cells + rm.cells ≤ R.cells) (hs : slots + rm.slots ≤ R.slots) (hr0 : ret' = none) (hd : decode bytes pc = .ok (.invokespecial idx, 3)) (hp : pc + 3 = pc')
    (K : ∀ T' v L, Stand p l e R s m args below meth c T' (locs ++ L) (cells + rm.cells) (slots + rm.slots) → Q' v T'.heap L → Go p e below Fin' T' (mkF m pc' Ls (v.toList ++ rest))) : Go p e below Fin' T (mkF m pc Ls S) := by
  subst hp
  subst hr0
  subst hS has
  obtain ⟨v, _, ⟨T', L', k', n'⟩, -, X', ⟨L, hQ, l', y', z'⟩, st⟩ := X.specialBack C.1 (y := y) hini C.2.2.1 (mvT C.2.1 w1) (mvT C.2.1 w2) (mvT C.2.1 wc) hy (backOf (W := W) (M []) C.2.1 wc wz hf hlo) (g := mkF m pc Ls (argsL.reverse ++ .ref a :: rest)) rfl (by show Ls.size = _; rw [C.2.2.2.2.1]; exact hls) (Steps.refl _) (a := a) (argsL := argsL) (rest := rest) (lenOf pd hlen) rfl (by show 2 * 0 + _ ≤ _; omega) (hb C.2.2.2.1 hd) (fun _ _ => ⟨rfl, eT, hc, hs⟩)
  dsimp only [Pt.U, Pt.locs, Pt.cells, Pt.slots] at X' l' y' z' st hQ
  subst l' y' z'
  exact (K T' v L X' hQ).via fun t k => st.trans k
theorem same_of_decl {y y0 : MethodName} {K1 : String} (w : (Cond.declares y).before a0 Z = true) (wn : (Cond.selects K1 y0 y0).before a0 Z = true) (hc0 : y0.cls = y.cls) (hy : y.cls ≠ "java/lang/invoke/MethodHandle" ∧ y.cls ≠ "java/lang/invoke/VarHandle") : (Cond.sameMethod y.cls y.cls y.name y.desc).before a0 Z = true := by
  obtain ⟨r, meth, hn, hm, -, -⟩ := Cond.declares_spec w
  obtain ⟨c2, r2, m2, q1, q2, q3, q4, mk, hmk, hmki⟩ := Cond.selects_spec wn
  have hc := findClass_of_methodNamed hn
  have hc' := findClass_of_methodNamed q3
  rw [hc0] at hc'
  have e : r.cls = m2.cls := Option.some.inj (hc.symm.trans hc')
  have hf := State.methodFound?_of_named hn hy
  simp [Cond.before, Cond.holds, Cond.value, hc, hf, hn, e, hmk, hmki]
theorem Go.callU (C : Cx p s m meth c Z own nm bytes maxL ret) (X : Stand p l e R s m args below meth c T locs cells slots) {idx : Nat} {y y0 : MethodName} {a : Addr} {K1 K2 : String} {bytes' : ByteArray} {maxL' : Nat} {ret' : Option FieldType} {rm : Room} {as' : Array Value} {Q' : Option Value → Heap → List Loc → Prop} {argsL rest : List Value} {ps : List FieldType} {r : Option FieldType} {W : Nat} (w1 : (Cond.methodLink own idx y).before a0 Z = true) (w2 : (Cond.declares y).before a0 Z = true) (wn : (Cond.selects K2 y0 y0).before a0 Z = true) (hc0 : y0.cls = y.cls) (w3 : (Cond.instanceMethod y).before a0 Z = true) (w4 : (Cond.superclass own y.cls).before a0 Z = true) (hni : y.name ≠ "<init>") (E : Exa Z h a K1) (hy : y.cls ≠ "java/lang/invoke/MethodHandle" ∧ y.cls ≠ "java/lang/invoke/VarHandle") (M : Met1 l Z y bytes' maxL' ret' rm as' h Q') (wc : (Cond.code y bytes' maxL' ret').before a0 Z = true) (wz : (Cond.initialized y.cls).before a0 Z = true) (eT : T.heap = h) (hS : S = argsL.reverse ++ .ref a :: rest) (has : (.ref a :: argsL).toArray = as') (pd : parseMethodDescriptor y.desc = some ⟨ps, r⟩) (hlen : argsL.length = ps.length) (hW : (rest.map fun v => v.category).sum ≤ W) (hls : Ls.size = maxL) (hf : rm.frames + 1 ≤ R.frames) (hlo : W + (maxL' + 11) + rm.locals ≤ R.locals) (hc : cells + rm.cells ≤ R.cells) (hs : slots + rm.slots ≤ R.slots) (hd : decode bytes pc = .ok (.invokespecial idx, 3)) (hp : pc + 3 = pc')
    (K : ∀ T' v L, Stand p l e R s m args below meth c T' (locs ++ L) (cells + rm.cells) (slots + rm.slots) → Q' v T'.heap L → Go p e below Fin' T' (mkF m pc' Ls (v.toList ++ rest))) : Go p e below Fin' T (mkF m pc Ls S) := by
  subst hp
  subst hS has
  obtain ⟨v, _, ⟨T', L', k', n'⟩, -, X', ⟨L, hQ, l', y', z'⟩, st⟩ := superBack X C.1 C.2.1 (y := y) C.2.2.1 w1 (same_of_decl w2 wn hc0 hy) w3 w4 hni (backOf (W := W) (M []) C.2.1 wc wz hf hlo) eT (Ins.self E) (g := mkF m pc Ls (argsL.reverse ++ .ref a :: rest)) rfl (by show Ls.size = _; rw [C.2.2.2.2.1]; exact hls) wc (argsL := argsL) (rest := rest) (lenOf pd hlen) rfl (by show 2 * 0 + _ ≤ _; omega) (hb C.2.2.2.1 hd) (fun _ _ => ⟨rfl, eT, hc, hs⟩)
  dsimp only [Pt.U, Pt.locs, Pt.cells, Pt.slots] at X' l' y' z' st hQ
  subst l' y' z'
  exact (K T' v L X' hQ).via fun t k => st.trans k
theorem decl_of {y : MethodName} {bytes' : ByteArray} {maxL' : Nat} {ret' : Option FieldType} (w : (Cond.instanceMethod y).before a0 Z = true) (wc : (Cond.code y bytes' maxL' ret').before a0 Z = true) : (Cond.declares y).before a0 Z = true := by
  obtain ⟨mk, methM, hnamed, hmethM, hstM, habM⟩ := Cond.instanceMethod_spec w
  obtain ⟨methM', cM, hmethM', -, -, -, -, -, -, hsigM⟩ := Cond.code_spec hnamed wc
  cases hmethM.symm.trans hmethM'
  simp [Cond.before, Cond.holds, Cond.value, hnamed, hmethM, hstM, hsigM]
theorem nf_mate {y y0 : MethodName} {K1 : String} (hZ : Z.Warmed39 s.vm) (wn : (Cond.selects K1 y0 y0).before a0 Z = true) (hc0 : y0.cls = y.cls) : NotFace s y := fun r0 h0 => by
  obtain ⟨c2, r2, m2, q1, q2, q3, q4, mk, hmk, hmki⟩ := Cond.selects_spec (mvT hZ wn (args := #[]))
  have hc := findClass_of_methodNamed h0
  have hc' := findClass_of_methodNamed q3
  rw [hc0] at hc'
  have e : r0.cls = m2.cls := Option.some.inj (hc.symm.trans hc')
  exact ⟨mk, by rw [e]; exact hmk, hmki⟩
theorem Go.callV (C : Cx p s m meth c Z own nm bytes maxL ret) (X : Stand p l e R s m args below meth c T locs cells slots) {idx : Nat} {y z : MethodName} {a : Addr} {K1 : String} {bytes' : ByteArray} {maxL' : Nat} {ret' : Option FieldType} {rm : Room} {as' : Array Value} {Q' : Option Value → Heap → List Loc → Prop} {argsL rest : List Value} {ps : List FieldType} {r : Option FieldType} {W : Nat} (w1 : (Cond.methodLink own idx y).before a0 Z = true) (w2 : (Cond.declares y).before a0 Z = true) (hnf : NotFace s y) (w3 : (Cond.selects K1 y z).before a0 Z = true) (w4 : (Cond.instanceMethod z).before a0 Z = true) (E : Exa Z h a K1) (hy : y.cls ≠ "java/lang/invoke/MethodHandle" ∧ y.cls ≠ "java/lang/invoke/VarHandle") (M : Met1 l Z z bytes' maxL' ret' rm as' h Q') (wc : (Cond.code z bytes' maxL' ret').before a0 Z = true) (wz : (Cond.initialized z.cls).before a0 Z = true) (eT : T.heap = h) (hS : S = argsL.reverse ++ .ref a :: rest) (has : (.ref a :: argsL).toArray = as') (pd : parseMethodDescriptor y.desc = some ⟨ps, r⟩) (hlen : argsL.length = ps.length) (hW : (rest.map fun v => v.category).sum ≤ W) (hls : Ls.size = maxL) (hf : rm.frames + 1 ≤ R.frames) (hlo : W + (maxL' + 11) + rm.locals ≤ R.locals) (hc : cells + rm.cells ≤ R.cells) (hs : slots + rm.slots ≤ R.slots) (hd : decode bytes pc = .ok (.invokevirtual idx, 3)) (hp : pc + 3 = pc')
    (K : ∀ T' v L, Stand p l e R s m args below meth c T' (locs ++ L) (cells + rm.cells) (slots + rm.slots) → Q' v T'.heap L → Go p e below Fin' T' (mkF m pc' Ls (v.toList ++ rest))) : Go p e below Fin' T (mkF m pc Ls S) := by
  subst hp
  obtain ⟨cq, kq, qa, qb, qc⟩ := isOf C.2.1 eT E
  subst hS has
  obtain ⟨v, _, ⟨T', L', k', n'⟩, -, X', ⟨L, hQ, l', y', z'⟩, st⟩ := X.virtualBack C.1 (y := y) (z := z) C.2.2.1 (mvT C.2.1 w1) (mvT C.2.1 w2) hnf (mvT C.2.1 w3) (mvT C.2.1 w4) hy (backOf (W := W) (M []) C.2.1 wc wz hf hlo) qa qc (g := mkF m pc Ls (argsL.reverse ++ .ref a :: rest)) rfl (by show Ls.size = _; rw [C.2.2.2.2.1]; exact hls) (Steps.refl _) (argsL := argsL) (rest := rest) (lenOf pd hlen) rfl (by show 2 * 0 + _ ≤ _; omega) (hb C.2.2.2.1 hd) (fun _ _ => ⟨rfl, eT, hc, hs⟩)
  dsimp only [Pt.U, Pt.locs, Pt.cells, Pt.slots] at X' l' y' z' st hQ
  subst l' y' z'
  exact (K T' v L X' hQ).via fun t k => st.trans k
theorem notFace_at {y : MethodName} {K1 : String} (hZ : Z.Warmed39 s.vm) (w : (Cond.selects K1 y y).before a0 Z = true) : NotFace s y := notFace_of_selects (args := #[]) (mvT hZ w)
end Own
end Jvm.RoadKit

namespace Jvm.RoadKit
open Sem ClassFile Op Lib Jvm.Stand Jvm.Free Jvm.LawKit
section OwnW
variable {p : Program} {l : Launch} {e : Env} {R : Room} {s : State} {m : MethodId} {args : Array Value} {below : List Frame} {meth : Method} {c : Code} {T : State} {locs : List Loc} {cells slots : Nat} {Z : State} {a0 : Array Value} {h : Heap}
variable {RC RS : Nat} {Q : Option Value → Heap → List Loc → Prop} {Fin' : Outcome → State → Prop} {own nm : String} {bytes : ByteArray} {maxL : Nat} {ret : Option FieldType} {pc pc' : Nat} {Ls Ls' : Array Slot} {S : List Value}
/-- sC is s but for its tables, which have grown as the run may let them; h: the heap now -/
def Sin (s sC : State) (h : Heap) : Prop := ∃ (vm : Vm) (k : Nat), sC = s.setVm vm ∧ s.Since vm k ∧ k ≤ h.size
theorem Sin.start (s : State) (h : Heap) : Sin s s h := ⟨s.vm, 0, rfl, (State.WarmedH.refl s).since 0, Nat.zero_le _⟩
theorem Sin.mono {sC : State} {h1 h2 : Heap} (Si : Sin s sC h1) (q : h1.size ≤ h2.size) : Sin s sC h2 := by obtain ⟨vm, k, a, b, c⟩ := Si; exact ⟨vm, k, a, b, Nat.le_trans c q⟩
theorem Cx.move {vm' : Vm} (C : Cx p s m meth c Z own nm bytes maxL ret) (hW : s.Warmed39 vm') : Cx p (s.setVm vm') m meth c Z own nm bytes maxL ret :=
  ⟨C.1, State.Warmed39.trans C.2.1 hW, by rw [show (s.setVm vm').vm = vm' from rfl, hW.alike.findClass]; exact C.2.2.1, C.2.2.2⟩
def FnW (s : State) (RC RS : Nat) (Q : Option Value → Heap → List Loc → Prop) (o : Outcome) (t : State) : Prop := ∃ v L, o = .returned v ∧ Q v t.heap L ∧ ReturnedEndW s o t L RC RS
def Met1W (l : Launch) (Z : State) (y : MethodName) (bytes : ByteArray) (maxL : Nat) (ret : Option FieldType) (rm : Room) (as' : Array Value) (h0 : Heap) (Q : Option Value → Heap → List Loc → Prop) : Prop :=
  ∀ ws : List Jvm.Cond, MetFree l y (head1 (Jvm.Cond.code y bytes maxL ret :: ws) rm) (fun a U => a = as' ∧ Z.Warmed39 U.vm ∧ U.heap = h0) (fun _ _ _ _ _ => True) (fun _ U o U' => ∃ v L, o = .returned v ∧ Q v U'.heap L ∧ ReturnedEndW U o U' L rm.cells rm.slots)
theorem Met1W.of_body {y : MethodName} {rm : Room} {as' : Array Value} {h0 : Heap} (hp : plainFor y = true) (ef : ∀ m, entryFrame m as' maxL = mkF m 0 Ls [])
    (body : ∀ {p : Program} {e : Env} {s : State} {m : MethodId} {below : List Frame} {meth : Method} {c : Code} {T : State}, Cx p s m meth c Z y.cls y.name bytes maxL ret → Stand p l e rm s m as' below meth c T [] 0 0 → T.heap = h0 → Go p e below (FnW s rm.cells rm.slots Q) T (mkF m 0 Ls [])) :
    Met1W l Z y bytes maxL ret rm as' h0 Q := by
  intro ws
  refine MetFree.of_bodySF hp hisR ?_
  intro p e s m args below meth c s₁ Bd hml0 hP hK
  obtain ⟨rfl, hZ, hh⟩ := hP
  have X0 : Stand p l e rm s m args below meth c s₁ [] 0 0 := Stand.of_body Bd
  have hlk : meth.locks = false := BodyLoose.notSynchronized Bd
  obtain ⟨s₂, o, st, r1, r2, r3⟩ := body (p := p) (e := e) (s := s) (m := m) (below := below) (meth := meth) (c := c) (T := s₁) ⟨Bd.exec, hZ, findClass_of_methodNamed Bd.named, Bd.bytes, hml0, Bd.returns, (name_of_methodNamed Bd.named Bd.method).1, hlk⟩ X0 (by rw [← hh, Bd.state]; rfl)
  exact ⟨s₂, o, castTop (ef m) st, r1, r2, r3⟩
end OwnW
end Jvm.RoadKit
namespace Jvm.RoadKit
open Sem ClassFile Op Lib Bundle Jvm.Stand Jvm.Free Jvm.LawKit
section OwnH
variable {p : Program} {l : Launch} {e : Env} {R : Room} {s : State} {m : MethodId} {args : Array Value} {below : List Frame} {meth : Method} {c : Code} {T : State} {locs : List Loc} {cells slots : Nat} {Z : State} {a0 : Array Value} {h : Heap}
variable {RC RS : Nat} {Q : Option Value → Heap → List Loc → Prop} {Fin' : Outcome → State → Prop} {own nm : String} {bytes : ByteArray} {maxL : Nat} {ret : Option FieldType} {pc pc' : Nat} {Ls Ls' : Array Slot} {S : List Value} {EL : List (String × Nat)} {sf : List Addr}
def FnH (Z : State) (EL : List (String × Nat)) (s : State) (h0 : Heap) (RC RS : Nat) (Q : Option Value → Heap → List Loc → Prop) (o : Outcome) (t : State) : Prop := ∃ v L, o = .returned v ∧ Q v t.heap L ∧ CHr Z EL s.vm h0 t.vm t.heap ∧ ReturnedEndW s o t L RC RS
def Met1H (EL : List (String × Nat)) (sf : List Addr) (l : Launch) (Z : State) (y : MethodName) (bytes : ByteArray) (maxL : Nat) (ret : Option FieldType) (rm : Room) (as' : Array Value) (h0 : Heap) (Q : Option Value → Heap → List Loc → Prop) : Prop :=
  ∀ ws : List Jvm.Cond, MetFree l y (head1 (Jvm.Cond.code y bytes maxL ret :: ws) rm) (fun a U => a = as' ∧ Z.Warmed39 U.vm ∧ U.heap = h0 ∧ CHv Z EL U.vm h0 ∧ ∀ x ∈ sf, Safe Z EL U.vm h0 x) (fun _ _ _ _ _ => True) (fun _ U o U' => ∃ v L, o = .returned v ∧ Q v U'.heap L ∧ CHr Z EL U.vm U.heap U'.vm U'.heap ∧ ReturnedEndW U o U' L rm.cells rm.slots)
theorem Met1H.of_body {y : MethodName} {rm : Room} {as' : Array Value} {h0 : Heap} (hp : plainFor y = true) (ef : ∀ m, entryFrame m as' maxL = mkF m 0 Ls [])
    (body : ∀ {p : Program} {e : Env} {s : State} {m : MethodId} {below : List Frame} {meth : Method} {c : Code} {T : State}, Cx p s m meth c Z y.cls y.name bytes maxL ret → Stand p l e rm s m as' below meth c T [] 0 0 → T.heap = h0 → CHv Z EL s.vm h0 → (∀ x ∈ sf, Safe Z EL s.vm h0 x) → Go p e below (FnH Z EL s h0 rm.cells rm.slots Q) T (mkF m 0 Ls [])) :
    Met1H EL sf l Z y bytes maxL ret rm as' h0 Q := by
  intro ws
  refine MetFree.of_bodySF hp hisR ?_
  intro p e s m args below meth c s₁ Bd hml0 hP hK
  obtain ⟨rfl, hZ, hh, hH, hS⟩ := hP
  have X0 : Stand p l e rm s m args below meth c s₁ [] 0 0 := Stand.of_body Bd
  have hlk : meth.locks = false := BodyLoose.notSynchronized Bd
  obtain ⟨s₂, o, st, r1, r2, v, L, r3, r4, r5, r6⟩ := body (p := p) (e := e) (s := s) (m := m) (below := below) (meth := meth) (c := c) (T := s₁) ⟨Bd.exec, hZ, findClass_of_methodNamed Bd.named, Bd.bytes, hml0, Bd.returns, (name_of_methodNamed Bd.named Bd.method).1, hlk⟩ X0 (by rw [← hh, Bd.state]; rfl) hH hS
  exact ⟨s₂, o, castTop (ef m) st, r1, r2, v, L, r3, r4, by rw [hh]; exact r5, r6⟩
theorem Safe.al {x : Addr} {k : ClassId} {ty : FieldType} {vs : List Value} {vm : Vm} (hal : Z.vm.Alike vm) (A : AL Z h x k ty vs) (ht : ty ≠ .byte) : Safe Z EL vm h x := by obtain ⟨c, A, -⟩ := A; exact Safe.arr hal A ht
theorem backOfH {y : MethodName} {rm : Room} {len W : Nat} {as' : Array Value} {vm0 : Vm} (hM : Met1H EL sf l Z y bytes maxL ret rm as' h Q)
    (hZ : Z.Warmed39 vm0) (wc : (Cond.code y bytes maxL ret).before a0 Z = true) (wz : (Cond.initialized y.cls).before a0 Z = true) (hf : rm.frames + 1 ≤ R.frames) (hl : W + (maxL + 11) + rm.locals ≤ R.locals) (hEL : EW Z a0 EL) (H : CHv Z EL vm0 h) (hsf : ∀ x ∈ sf, x < h.size ∧ Safe Z EL vm0 h x) :
    BackS l R p e below (s.setVm vm0) args y len W (fun A a => a = as' ∧ A.U.heap = h ∧ A.cells + rm.cells ≤ R.cells ∧ A.slots + rm.slots ≤ R.slots)
      (fun A _ v B => ∃ L, Q v B.U.heap L ∧ B.locs = A.locs ++ L ∧ B.cells = A.cells + rm.cells ∧ B.slots = A.slots + rm.slots ∧ CHr Z EL vm0 h B.U.vm B.U.heap) :=
  BackS.of_freeW (bytes := bytes) (maxL := maxL) (ret := ret) (E := fun _ first o t L k n => k = rm.cells ∧ n = rm.slots ∧ (∃ v, o = .returned v ∧ Q v t.heap L) ∧ CHr Z EL first.vm first.heap t.vm t.heap) (hM []) hf hl
    (fun m meth c A a Y hp => have hU : Z.Warmed39 A.U.vm := wtrans (s := s.setVm vm0) hZ Y.warmed
      ⟨by show (Cond.and _ .tt).before a A.U = true; rw [Cond.before_and, mv hU wc]; rfl, mv hU wc, mv hU wz, hp.2.2.1, hp.2.2.2⟩)
    (fun m meth c A a g mk Y hp => ⟨hp.1, wtrans (s := s.setVm vm0) hZ Y.warmed, hp.2.1, (CHv.at Y hZ hEL H).1, fun x hx => (CHv.at Y hZ hEL H).safe (hsf x hx).1 (hsf x hx).2⟩) (fun _ _ _ _ _ _ _ _ _ => trivial)
    (fun _ _ _ _ ⟨v, L, h1, h2, h3, h4⟩ => ⟨L, _, _, h4, rfl, rfl, ⟨v, h1, h2⟩, h3⟩)
    (fun m meth c A a g mk v t L k n Y hp _ _ ⟨e1, e2, ⟨v', e3, e4⟩, e5⟩ => by
      cases e3; subst e1 e2
      refine ⟨L, e4, rfl, rfl, rfl, (CHv.at Y hZ hEL H).trans ?_⟩
      rw [← hp.2.1]; exact e5)
theorem Go.ldcH {sC : State} (C : Cx p sC m meth c Z own nm bytes maxL ret) (X : Stand p l e R sC m args below meth c T locs cells slots) (Si : Sin s sC h) (hEL : EW Z a0 EL) (H : CHv Z EL sC.vm h) {idx n : Nat} {text : String} {vs : List Value} {z : Int32} (w : (Cond.stringLink own idx text).before a0 Z = true) (wS : ∀ a ∈ Bundle.stringAtoms, a.before a0 Z = true) (eT : T.heap = h) (hmem : (own, idx) ∈ EL) (ht : (∀ c ∈ text.toList, c.toNat < 256) ∧ text.toList.map (fun c => Value.int (Jvm.Lit.byteI c.toNat.toUInt16)) = vs) (hz : ¬ z < 0) (hzl : z.toNatClampNeg = vs.length) (hn : 4 * text.toList.length ≤ n) (hbig : n ≤ 536870912) (hc : cells + 2 ≤ R.cells) (hl : slots + (n + 4) ≤ R.slots) (hd : decode bytes pc = .ok (.ldc idx, 2)) (hp : pc + 2 = pc')
    (K : ∀ T' h' a sC' b k, Cx p sC' m meth c Z own nm bytes maxL ret → Stand p l e R sC' m args below meth c T' locs (cells + 2) (slots + (n + 4)) → T'.heap = h' → Sin s sC' h' → Ext h h' → CHr Z EL sC.vm h sC'.vm h' → Exa Z h' a "java/lang/String" → Fld Z h' a "java/lang/String" "coder" "B" (.int 0) → Fld Z h' a "java/lang/String" "value" "[B" (.ref b) → AL Z h' b k .byte vs → (∀ x, Safe Z EL sC'.vm h' x → x ≠ a ∧ x ≠ b) → Go p e below Fin' T' (mkF m pc' Ls (.ref a :: S))) : Go p e below Fin' T (mkF m pc Ls S) := by
  subst hp
  obtain ⟨vm0, k0, rfl, hS, hk⟩ := Si
  obtain ⟨a, T', h', k1, b, k, X', e', E', hS', hk', hW', hf', p1, p2, p3, p4, -, -, hR, -, hne, st⟩ := Jvm.RoadKit.ldcCH X C.1 C.2.1 C.2.2.1 w wS eT hS hk hEL hmem H ht hz hzl (g := mkF m pc Ls S) rfl (hb C.2.2.2.1 hd) hn hbig hc hl
  exact (K T' h' a (s.setVm T'.vm) b k ⟨C.1, hW', hf', C.2.2.2⟩ X' e' ⟨T'.vm, k1, rfl, hS', hk'⟩ E' hR p1 p2 p3 (AL.of_arv p4 hzl) hne).via st
theorem Go.retNH {sC : State} (C : Cx p sC m meth c Z own nm bytes maxL ret) (X : Stand p l e R sC m args below meth c T locs cells slots) {h0 : Heap} (Si : Sin s sC T.heap) (hEL : EW Z a0 EL) (H : CHr Z EL s.vm h0 sC.vm T.heap) {t : FieldType} {z : Int32} (hr : ret = some t) (hd : decode bytes pc = .ok (.ireturn, 1)) (ht : t = .boolean ∨ t = .byte ∨ t = .char ∨ t = .short) (hq : Q (some (.int (nar t z))) T.heap locs) (hc : cells ≤ RC) (hs : slots ≤ RS) : Go p e below (FnH Z EL s h0 RC RS Q) T (mkF m pc Ls (.int z :: S)) := by
  have hret := C.2.2.2.2.2.1
  have hlk := C.2.2.2.2.2.2.2
  rw [hr] at hret
  obtain ⟨vm0, k0, rfl, hS0, hk0⟩ := Si
  have hR := H.trans (CHv.at X C.2.1 hEL H.1)
  obtain ⟨fs, hl, hrun, hended, hW⟩ := X.leaveW hS0 hk0 (v := (some (.int (nar t z)))) (fun h => by first | rfl | (rw [hret] at h; cases h)) hlk
  exact ⟨_, _, Jvm.RoadKit.retN X C.1 hret ht (hb C.2.2.2.1 hd) hl, hrun, hended, _, _, rfl, hq, hR, hW.1, hW.2.1, hW.2.2.1, hW.2.2.2.mono hc hs⟩
end OwnH
end Jvm.RoadKit
namespace Jvm.Pilot.@@N@@
open Jvm Jvm.ClassFile Sem Op Lib Jvm.Free Jvm.Stand Jvm.LawKit Jvm.RoadKit Bundle Jvm.Pilot.@@N@@.Jvm.D
theorem tw {a0 : Array Value} {Z : State} (hw : ∀ d ∈ tables_1, d.before a0 Z = true) (i : Nat) {d : Cond} (h : tables_1[i]? = some d) : d.before a0 Z = true := hw d (List.mem_of_getElem? h)
set_option maxRecDepth 65536
set_option maxHeartbeats 40000000
abbrev mN0 : MethodName := ⟨"com/example/barrault/barrault/io/WarcDigest", "base32", "([B)Ljava/lang/String;"⟩
abbrev mN1 : MethodName := ⟨"com/example/barrault/barrault/io/WarcDigestBase32PinLaw", "alpha", "(I)C"⟩
abbrev mN2 : MethodName := ⟨"com/example/barrault/barrault/io/WarcDigestBase32PinLaw", "enc", "(JII)C"⟩
abbrev mN3 : MethodName := ⟨"com/example/barrault/barrault/io/WarcDigestBase32PinLaw", "fill", "([CIJI)V"⟩
abbrev mN4 : MethodName := ⟨"com/example/barrault/barrault/io/WarcDigestBase32PinLaw", "keep", "(JI)J"⟩
abbrev mN5 : MethodName := ⟨"com/example/barrault/barrault/io/WarcDigestBase32PinLaw", "put", "([BIJI)V"⟩
abbrev mN6 : MethodName := ⟨"com/example/barrault/barrault/io/WarcDigestBase32PinLaw", "sig", "(I)I"⟩
abbrev mN7 : MethodName := ⟨"java/lang/AbstractStringBuilder", "<init>", "(I)V"⟩
abbrev mN8 : MethodName := ⟨"java/lang/AbstractStringBuilder", "append", "(C)Ljava/lang/AbstractStringBuilder;"⟩
abbrev mN9 : MethodName := ⟨"java/lang/AbstractStringBuilder", "ensureCapacityInternal", "(I)V"⟩
abbrev mN10 : MethodName := ⟨"java/lang/AbstractStringBuilder", "getValue", "()[B"⟩
abbrev mN11 : MethodName := ⟨"java/lang/AbstractStringBuilder", "isLatin1", "()Z"⟩
abbrev mN12 : MethodName := ⟨"java/lang/AbstractStringBuilder", "length", "()I"⟩
abbrev mN13 : MethodName := ⟨"java/lang/Math", "max", "(II)I"⟩
abbrev mN14 : MethodName := ⟨"java/lang/Math", "min", "(II)I"⟩
abbrev mN15 : MethodName := ⟨"java/lang/String", "<init>", "(Ljava/lang/AbstractStringBuilder;Ljava/lang/Void;)V"⟩
abbrev mN16 : MethodName := ⟨"java/lang/String", "<init>", "(Ljava/lang/StringBuilder;)V"⟩
abbrev mN17 : MethodName := ⟨"java/lang/String", "<init>", "([C)V"⟩
abbrev mN18 : MethodName := ⟨"java/lang/String", "<init>", "([CIILjava/lang/Void;)V"⟩
abbrev mN19 : MethodName := ⟨"java/lang/String", "equals", "(Ljava/lang/Object;)Z"⟩
abbrev mN20 : MethodName := ⟨"java/lang/StringBuilder", "<init>", "(I)V"⟩
abbrev mN21 : MethodName := ⟨"java/lang/StringBuilder", "append", "(C)Ljava/lang/StringBuilder;"⟩
abbrev mN22 : MethodName := ⟨"java/lang/StringBuilder", "length", "()I"⟩
abbrev mN23 : MethodName := ⟨"java/lang/StringBuilder", "toString", "()Ljava/lang/String;"⟩
abbrev mN24 : MethodName := ⟨"java/lang/StringLatin1", "canEncode", "(C)Z"⟩
abbrev mN25 : MethodName := ⟨"java/lang/StringLatin1", "equals", "([B[B)Z"⟩
abbrev mN26 : MethodName := ⟨"java/lang/StringUTF16", "coderFromArrayLen", "([BI)B"⟩
abbrev mN27 : MethodName := ⟨"java/lang/StringUTF16", "compress", "([CII)[B"⟩
abbrev mN28 : MethodName := ⟨"java/lang/StringUTF16", "compress", "([CI[BII)I"⟩
abbrev mN29 : MethodName := ⟨"java/util/Arrays", "copyOfRange", "([BII)[B"⟩
theorem n32_int {n : Nat} (h : n < 2 ^ 31) : n.toInt32.toInt = n := len_toInt h
theorem n32_nat {n : Nat} (h : n < 2 ^ 31) : n.toInt32.toNatClampNeg = n := by simp only [Int32.toNatClampNeg, len_toInt h]; omega
theorem n32_neg {n : Nat} (h : n < 2 ^ 31) : ¬ n.toInt32 < 0 := by simp only [Int32.lt_iff_toInt_lt, len_toInt h, Int32.reduceToInt]; omega
theorem n32_lt {n k : Nat} (hn : n < 2 ^ 31) (hk : k < 2 ^ 31) : n.toInt32 < k.toInt32 ↔ n < k := by rw [Int32.lt_iff_toInt_lt, len_toInt hn, len_toInt hk]; omega
theorem n32_succ (n : Nat) : n.toInt32 + (1 : Int32) = (n + 1).toInt32 := (Int32.ofNat_add n 1).symm
theorem n32_eq {n k : Nat} (hn : n < 2 ^ 31) (hk : k < 2 ^ 31) : n.toInt32 = k.toInt32 ↔ n = k := by rw [← Int32.toInt_inj, len_toInt hn, len_toInt hk]; omega
theorem nar_byte8 (x : Int32) : nar .byte x.toInt8.toInt32 = x.toInt8.toInt32 := by simp [nar]
def by8 (cs : List Int32) : List Value := cs.map fun c => Value.int c.toInt8.toInt32
def ch16 (cs : List Int32) : List Value := cs.map Value.int
theorem by8_len (cs : List Int32) : (by8 cs).length = cs.length := by simp [by8]
theorem ch16_len (cs : List Int32) : (ch16 cs).length = cs.length := by simp [ch16]

theorem d26_0 : decode jdk_52_method_21_code 0 = .ok (.iconst 0, 1) := by decide +kernel
theorem d26_1 : decode jdk_52_method_21_code 1 = .ok (.istore 5, 2) := by decide +kernel
theorem d26_3 : decode jdk_52_method_21_code 3 = .ok (.iload 5, 2) := by decide +kernel
theorem d26_5 : decode jdk_52_method_21_code 5 = .ok (.iload 4, 2) := by decide +kernel
theorem d26_7 : decode jdk_52_method_21_code 7 = .ok (.if_icmp .ge 37, 3) := by decide +kernel
theorem d26_10 : decode jdk_52_method_21_code 10 = .ok (.aload_n 0, 1) := by decide +kernel
theorem d26_11 : decode jdk_52_method_21_code 11 = .ok (.iload_n 1, 1) := by decide +kernel
theorem d26_12 : decode jdk_52_method_21_code 12 = .ok (.caload, 1) := by decide +kernel
theorem d26_13 : decode jdk_52_method_21_code 13 = .ok (.istore 6, 2) := by decide +kernel
theorem d26_15 : decode jdk_52_method_21_code 15 = .ok (.iload 6, 2) := by decide +kernel
theorem d26_17 : decode jdk_52_method_21_code 17 = .ok (.sipush 255, 3) := by decide +kernel
theorem d26_20 : decode jdk_52_method_21_code 20 = .ok (.if_icmp .le 6, 3) := by decide +kernel
theorem d26_23 : decode jdk_52_method_21_code 23 = .ok (.iload 5, 2) := by decide +kernel
theorem d26_25 : decode jdk_52_method_21_code 25 = .ok (.ireturn, 1) := by decide +kernel
theorem d26_26 : decode jdk_52_method_21_code 26 = .ok (.aload_n 2, 1) := by decide +kernel
theorem d26_27 : decode jdk_52_method_21_code 27 = .ok (.iload_n 3, 1) := by decide +kernel
theorem d26_28 : decode jdk_52_method_21_code 28 = .ok (.iload 6, 2) := by decide +kernel
theorem d26_30 : decode jdk_52_method_21_code 30 = .ok (.i2b, 1) := by decide +kernel
theorem d26_31 : decode jdk_52_method_21_code 31 = .ok (.bastore, 1) := by decide +kernel
theorem d26_32 : decode jdk_52_method_21_code 32 = .ok (.iinc 1 1, 3) := by decide +kernel
theorem d26_35 : decode jdk_52_method_21_code 35 = .ok (.iinc 3 1, 3) := by decide +kernel
theorem d26_38 : decode jdk_52_method_21_code 38 = .ok (.iinc 5 1, 3) := by decide +kernel
theorem d26_41 : decode jdk_52_method_21_code 41 = .ok (.goto (-38), 3) := by decide +kernel
theorem d26_44 : decode jdk_52_method_21_code 44 = .ok (.iload 4, 2) := by decide +kernel
theorem d26_46 : decode jdk_52_method_21_code 46 = .ok (.ireturn, 1) := by decide +kernel
theorem lp_compress {p : Program} {l : Launch} {e : Env} {R : Room} {s : State} {m : MethodId} {args : Array Value} {below : List Frame} {meth : Method} {c : Code} {Z : State} {Fin' : Outcome → State → Prop} {a b : Addr} {ka kb : ClassId} {cs : List Int32} (C : Cx p s m meth c Z "java/lang/StringUTF16" "compress" jdk_52_method_21_code 7 (some .int)) (hcs : ∀ x ∈ cs, 0 ≤ x.toInt ∧ x.toInt ≤ 255) (hl : cs.length < 2 ^ 31) (hne : a ≠ b) (hnb : Z.heap.size ≤ b) :
    ∀ (k n : Nat) (T : State) (locs : List Loc) (cells slots : Nat) (h : Heap) (s6 : Slot), n + k = cs.length → One s6 → Stand p l e R s m args below meth c T locs cells slots → T.heap = h → AL Z h a ka .char (ch16 cs) → AL Z h b kb .byte (by8 (cs.take n) ++ List.replicate k (.int 0)) → Fr Z.heap.size locs →
      (∀ (T' : State) (locs' : List Loc) (h' : Heap) (s6' : Slot), Stand p l e R s m args below meth c T' locs' cells slots → T'.heap = h' → Keep h h' [b] → AL Z h' b kb .byte (by8 cs) → Fr Z.heap.size locs' → Go p e below Fin' T' (mkF m 44 #[.val (.ref a), .val (.int cs.length.toInt32), .val (.ref b), .val (.int cs.length.toInt32), .val (.int cs.length.toInt32), .val (.int cs.length.toInt32), s6'] [])) →
      Go p e below Fin' T (mkF m 3 #[.val (.ref a), .val (.int n.toInt32), .val (.ref b), .val (.int n.toInt32), .val (.int cs.length.toInt32), .val (.int n.toInt32), s6] []) := by
  intro k
  induction k with
  | zero =>
    intro n T locs cells slots h s6 hn h6 X e0 A B N K
    have hn' : n = cs.length := by omega
    subst hn'
    refine Go.iload (pc' := 5) C X d26_3 rfl rfl ?_
    refine Go.iload (pc' := 7) C X d26_5 rfl rfl ?_
    refine Go.icmpYes (pc' := 44) C X d26_7 (flt (x := cs.length.toInt32) (y := cs.length.toInt32) (fun q => absurd ((n32_lt hl hl).mp q) (Nat.lt_irrefl _))).2.1 (by decide) (by decide) ?_
    exact K T locs h s6 X e0 (Keep.refl _ _) (by simpa using B) N
  | succ k ih =>
    intro n T locs cells slots h s6 hn h6 X e0 A B N K
    have hlt : n < cs.length := by omega
    have hn31 : n < 2 ^ 31 := by omega
    obtain ⟨x, hx⟩ : ∃ x, x = cs[n] := ⟨_, rfl⟩
    have hxm : x ∈ cs := hx ▸ List.getElem_mem hlt
    have hb := hcs x hxm
    have hget : (ch16 cs)[n]? = some (.int x) := by simp [ch16, hx, hlt]
    refine Go.iload (pc' := 5) C X d26_3 rfl rfl ?_
    refine Go.iload (pc' := 7) C X d26_5 rfl rfl ?_
    refine Go.icmpNo (pc' := 10) C X d26_7 (tlt (x := n.toInt32) (y := cs.length.toInt32) ((n32_lt hn31 hl).mpr hlt)).2.1 rfl ?_
    refine Go.aloadN (pc' := 11) C X d26_10 rfl rfl rfl ?_
    refine Go.iloadN (pc' := 12) C X d26_11 rfl rfl ?_
    refine Go.ldC (i := n) (v := .int x) (pc' := 13) C X e0 A (n32_neg hn31) (n32_nat hn31) hget d26_12 rfl ?_
    refine Go.istore (Ls' := #[.val (.ref a), .val (.int n.toInt32), .val (.ref b), .val (.int n.toInt32), .val (.int cs.length.toInt32), .val (.int n.toInt32), .val (.int x)]) (pc' := 15) C X d26_13 (XS.store1 (o := s6) rfl h6 rfl) rfl ?_
    refine Go.iload (pc' := 17) C X d26_15 rfl rfl ?_
    refine Go.sipush (z := (255 : Int32)) (pc' := 20) C X d26_17 rfl rfl ?_
    refine Go.icmpYes (pc' := 26) C X d26_20 (flt (x := (255 : Int32)) (y := x) (fun q => absurd (Int32.lt_iff_toInt_lt.mp q) (by simp only [Int32.reduceToInt]; omega))).2.2.2 (by decide) (by decide) ?_
    refine Go.aloadN (pc' := 27) C X d26_26 rfl rfl rfl ?_
    refine Go.iloadN (pc' := 28) C X d26_27 rfl rfl ?_
    refine Go.iload (pc' := 30) C X d26_28 rfl rfl ?_
    refine Go.i2b (pc' := 31) C X d26_30 rfl ?_
    refine Go.stB (i := n) (x' := x.toInt8.toInt32) (vs' := by8 (cs.take (n + 1)) ++ List.replicate k (.int 0)) (pc' := 32) C X e0 B (n32_neg hn31) (n32_nat hn31) (by simp [by8]; omega) (nar_byte8 x) ?_ d26_31 rfl ?_
    · rw [List.take_add_one, List.getElem?_eq_getElem hlt, ← hx]
      simp only [by8, List.map_append, Option.toList, List.map_cons, List.map_nil, List.replicate_succ, List.append_assoc, List.cons_append, List.nil_append]
      rw [List.set_append_right _ _ (by simp; omega)]
      simp [Nat.min_eq_left (Nat.le_of_lt hlt)]
    · intro T1 h1 X1 e1 W1 B1
      have N1 := Fr.snoc X1 N hnb
      refine Go.iinc (Ls' := #[.val (.ref a), .val (.int (n + 1).toInt32), .val (.ref b), .val (.int n.toInt32), .val (.int cs.length.toInt32), .val (.int n.toInt32), .val (.int x)]) (z := (1 : Int32)) (pc' := 35) C X1 d26_32 rfl rfl (by rw [n32_succ]; rfl) rfl ?_
      refine Go.iinc (Ls' := #[.val (.ref a), .val (.int (n + 1).toInt32), .val (.ref b), .val (.int (n + 1).toInt32), .val (.int cs.length.toInt32), .val (.int n.toInt32), .val (.int x)]) (z := (1 : Int32)) (pc' := 38) C X1 d26_35 rfl rfl (by rw [n32_succ]; rfl) rfl ?_
      refine Go.iinc (Ls' := #[.val (.ref a), .val (.int (n + 1).toInt32), .val (.ref b), .val (.int (n + 1).toInt32), .val (.int cs.length.toInt32), .val (.int (n + 1).toInt32), .val (.int x)]) (z := (1 : Int32)) (pc' := 41) C X1 d26_38 rfl rfl (by rw [n32_succ]; rfl) rfl ?_
      refine Go.goto (pc' := 3) C X1 d26_41 (by decide) (by decide) ?_
      refine ih (n + 1) T1 _ cells slots h1 (.val (.int x)) (by omega) (One.val rfl) X1 e1 (AL.other W1 A hne) B1 N1 ?_
      intro T' locs' h' s6' X' e' K' B' N'
      exact K T' locs' h' s6' X' e' (((Keep.refl h [b]).wr W1 (Or.inl (by simp))).trans K' (allS (Or.inl (by simp)) all0)) B' N'
theorem pf_26 : plainFor mN28 = true := plainFor_of_name (by first | (simp [plainName, overriddenIn]; done) | decide +kernel)
def Q_cmpI (Z : State) (a : Addr) (b : Addr) (ka : ClassId) (kb : ClassId) (cs : List Int32) (h0 : Heap) (rv : Option Value) (h : Heap) (L : List Loc) : Prop := rv = some (.int cs.length.toInt32) ∧ Fr Z.heap.size L ∧ Keep h0 h [b] ∧ AL Z h b kb .byte (by8 cs)
theorem rm_cmpI (l : Launch) (Z : State) (a0 : Array Value) (hw : ∀ d ∈ tables_1, d.before a0 Z = true) (a : Addr) (b : Addr) (ka : ClassId) (kb : ClassId) (cs : List Int32) (h0 : Heap) (O0 : Ext Z.heap h0) (A0 : AL Z h0 a ka .char (ch16 cs)) (B0 : AL Z h0 b kb .byte (List.replicate cs.length (.int 0))) (hcs : ∀ x ∈ cs, 0 ≤ x.toInt ∧ x.toInt ≤ 255) (hl : cs.length < 2 ^ 31) (hne : a ≠ b) (hnb : Z.heap.size ≤ b) :
    Met1 l Z mN28 jdk_52_method_21_code 7 (some .int) ({ frames := 0, cells := 0, slots := 0, locals := 0 } : Room) #[(.ref a), (.int (0 : Int32)), (.ref b), (.int (0 : Int32)), (.int cs.length.toInt32)] h0 (Q_cmpI Z a b ka kb cs h0) := by
  refine Met1.of_body (Ls := #[.val (.ref a), .val (.int (0 : Int32)), .val (.ref b), .val (.int (0 : Int32)), .val (.int cs.length.toInt32), .unset, .unset]) pf_26 (fun m => by first | (simp [entryFrame, mkF, argsToLocals, Value.category]; done) | rfl) ?_
  intro p e s m below meth c T0 C X0 e0
  have N0 : Fr Z.heap.size [] := Fr.nil _
  refine Go.iconst (z := (0 : Int32)) (pc' := 1) C X0 d26_0 rfl rfl ?_
  refine Go.istore (Ls' := #[.val (.ref a), .val (.int (0 : Int32)), .val (.ref b), .val (.int (0 : Int32)), .val (.int cs.length.toInt32), .val (.int (0 : Int32)), .unset]) (pc' := 3) C X0 d26_1 rfl rfl ?_
  refine lp_compress C hcs hl hne hnb cs.length 0 T0 [] 0 0 h0 .unset (by omega) One.u X0 e0 A0 (by simpa [by8] using B0) N0 ?_
  intro T' locs' h' s6' X' e' K' B' N'
  refine Go.iload (pc' := 46) C X' d26_44 rfl rfl ?_
  exact Go.retI C X' rfl d26_46 (by rw [e']; exact ⟨rfl, N', K', B'⟩) (by decide) (by decide)
theorem pd_0 : parseMethodDescriptor "([CI[BII)I" = some ⟨[(.array .char), .int, (.array .byte), .int, .int], some .int⟩ := by decide +kernel
theorem pf_25 : plainFor mN27 = true := plainFor_of_name (by first | (simp [plainName, overriddenIn]; done) | decide +kernel)
theorem d25_0 : decode jdk_52_method_16_code 0 = .ok (.iload_n 2, 1) := by decide +kernel
theorem d25_1 : decode jdk_52_method_16_code 1 = .ok (.newarray .byte, 2) := by decide +kernel
theorem d25_3 : decode jdk_52_method_16_code 3 = .ok (.astore_n 3, 1) := by decide +kernel
theorem d25_4 : decode jdk_52_method_16_code 4 = .ok (.aload_n 0, 1) := by decide +kernel
theorem d25_5 : decode jdk_52_method_16_code 5 = .ok (.iload_n 1, 1) := by decide +kernel
theorem d25_6 : decode jdk_52_method_16_code 6 = .ok (.aload_n 3, 1) := by decide +kernel
theorem d25_7 : decode jdk_52_method_16_code 7 = .ok (.iconst 0, 1) := by decide +kernel
theorem d25_8 : decode jdk_52_method_16_code 8 = .ok (.iload_n 2, 1) := by decide +kernel
theorem d25_9 : decode jdk_52_method_16_code 9 = .ok (.invokestatic 115, 3) := by decide +kernel
theorem d25_12 : decode jdk_52_method_16_code 12 = .ok (.istore 4, 2) := by decide +kernel
theorem d25_14 : decode jdk_52_method_16_code 14 = .ok (.iload 4, 2) := by decide +kernel
theorem d25_16 : decode jdk_52_method_16_code 16 = .ok (.iload_n 2, 1) := by decide +kernel
theorem d25_17 : decode jdk_52_method_16_code 17 = .ok (.if_icmp .eq 40, 3) := by decide +kernel
theorem d25_57 : decode jdk_52_method_16_code 57 = .ok (.aload_n 3, 1) := by decide +kernel
theorem d25_58 : decode jdk_52_method_16_code 58 = .ok (.areturn, 1) := by decide +kernel
def Q_cmpO (Z : State) (a : Addr) (ka : ClassId) (cs : List Int32) (h0 : Heap) (rv : Option Value) (h : Heap) (L : List Loc) : Prop := ∃ b : Addr, ∃ kb : ClassId, rv = some (.ref b) ∧ Fr Z.heap.size L ∧ Keep h0 h [] ∧ h0.size ≤ b ∧ AL Z h b kb .byte (by8 cs)
theorem rm_cmpO (l : Launch) (Z : State) (a0 : Array Value) (hw : ∀ d ∈ tables_1, d.before a0 Z = true) (a : Addr) (ka : ClassId) (cs : List Int32) (h0 : Heap) (O0 : Ext Z.heap h0) (A0 : AL Z h0 a ka .char (ch16 cs)) (hcs : ∀ x ∈ cs, 0 ≤ x.toInt ∧ x.toInt ≤ 255) (hl : cs.length < 2 ^ 31) (hN : cs.length ≤ 16) :
    Met1 l Z mN27 jdk_52_method_16_code 6 (some (.array .byte)) ({ frames := 1, cells := 1, slots := 16, locals := 18 } : Room) #[(.ref a), (.int (0 : Int32)), (.int cs.length.toInt32)] h0 (Q_cmpO Z a ka cs h0) := by
  refine Met1.of_body (Ls := #[.val (.ref a), .val (.int (0 : Int32)), .val (.int cs.length.toInt32), .unset, .unset, .unset]) pf_25 (fun m => by first | (simp [entryFrame, mkF, argsToLocals, Value.category]; done) | rfl) ?_
  intro p e s m below meth c T0 C X0 e0
  have N0 : Fr Z.heap.size [] := Fr.nil _
  refine Go.iloadN (pc' := 1) C X0 d25_0 rfl rfl ?_
  refine Go.newP (aty := .byte) (cap := 16) (vs := (List.replicate cs.length (.int 0))) (ad := "[B") (pc' := 3) C X0 (by decide) (tw hw 1 rfl) e0 (n32_neg hl) (by rw [n32_nat hl]; exact hN) (by decide) (by decide) (by decide) (by rw [n32_nat hl]; rfl) d25_1 rfl ?_
  intro T101 h101 b101 k101 X101 e101 g101 E101 A101 Ea101
  have n_b101 : Z.heap.size ≤ b101 := Nat.le_trans O0.1 (Nat.le_of_eq g101.symm)
  have z_b101 : h0.size ≤ b101 := Nat.le_trans (Nat.le_refl _) (Nat.le_of_eq g101.symm)
  have A101 : AL Z h101 b101 k101 .byte (List.replicate cs.length (.int 0)) := A101
  refine Go.astoreN (Ls' := #[.val (.ref a), .val (.int (0 : Int32)), .val (.int cs.length.toInt32), .val (.ref b101), .unset, .unset]) (pc' := 4) C X101 d25_3 rfl rfl rfl ?_
  refine Go.aloadN (pc' := 5) C X101 d25_4 rfl rfl rfl ?_
  refine Go.iloadN (pc' := 6) C X101 d25_5 rfl rfl ?_
  refine Go.aloadN (pc' := 7) C X101 d25_6 rfl rfl rfl ?_
  refine Go.iconst (z := (0 : Int32)) (pc' := 8) C X101 d25_7 rfl rfl ?_
  refine Go.iloadN (pc' := 9) C X101 d25_8 rfl rfl ?_
  have c103 : AL Z h101 a ka .char (ch16 cs) := (AL.ext E101 A0)
  have ne104 : a ≠ b101 := Nat.ne_of_lt (Nat.lt_of_lt_of_le A0.lt (Nat.le_trans (Nat.le_refl _) (Nat.le_of_eq g101.symm)))
  have O105 : Ext Z.heap h101 := (Ext.trans O0 E101)
  refine Go.callS (y := mN28) (pc' := 12) C X101 (tw hw 138 rfl) (tw hw 139 rfl) (by decide) (rm_cmpI l Z a0 hw a b101 ka k101 cs h101 O105 c103 A101 hcs hl ne104 n_b101) (tw hw 140 rfl) (tw hw 136 rfl) e101 (argsL := [(.ref a), (.int (0 : Int32)), (.ref b101), (.int (0 : Int32)), (.int cs.length.toInt32)]) (rest := []) (W := 0) rfl rfl pd_0 rfl (Nat.le_of_eq rfl) rfl (by decide) (by decide) (by decide) (by decide) d25_9 rfl ?_
  intro T102 v102 L102 X102 q102
  obtain ⟨rfl, N102q, K102, P102_0⟩ := q102
  have N102 := Fr.app N0 N102q
  refine Go.istore (Ls' := #[.val (.ref a), .val (.int (0 : Int32)), .val (.int cs.length.toInt32), .val (.ref b101), .val (.int cs.length.toInt32), .unset]) (pc' := 14) C X102 d25_12 rfl rfl ?_
  refine Go.iload (pc' := 16) C X102 d25_14 rfl rfl ?_
  refine Go.iloadN (pc' := 17) C X102 d25_16 rfl rfl ?_
  refine Go.icmpYes (pc' := 57) C X102 d25_17 (teq (x := cs.length.toInt32) (y := cs.length.toInt32) rfl).1 (by decide) (by decide) ?_
  refine Go.aloadN (pc' := 58) C X102 d25_57 rfl rfl rfl ?_
  have K107 : Keep h0 T102.heap [] := (((Keep.refl h0 []).ext E101).trans K102 (allS (Or.inr z_b101) all0))
  exact Go.retA C X102 rfl d25_58 rfl rfl rfl ⟨b101, k101, rfl, N102, K107, z_b101, P102_0⟩ (by decide) (by decide)
theorem pf_27 : plainFor mN26 = true := plainFor_of_name (by first | (simp [plainName, overriddenIn]; done) | decide +kernel)
theorem d27_0 : decode jdk_52_method_15_code 0 = .ok (.iload_n 1, 1) := by decide +kernel
theorem d27_1 : decode jdk_52_method_15_code 1 = .ok (.aload_n 0, 1) := by decide +kernel
theorem d27_2 : decode jdk_52_method_15_code 2 = .ok (.arraylength, 1) := by decide +kernel
theorem d27_3 : decode jdk_52_method_15_code 3 = .ok (.isub, 1) := by decide +kernel
theorem d27_4 : decode jdk_52_method_15_code 4 = .ok (.bipush 31, 2) := by decide +kernel
theorem d27_6 : decode jdk_52_method_15_code 6 = .ok (.iushr, 1) := by decide +kernel
theorem d27_7 : decode jdk_52_method_15_code 7 = .ok (.i2b, 1) := by decide +kernel
theorem d27_8 : decode jdk_52_method_15_code 8 = .ok (.ireturn, 1) := by decide +kernel
def Q_cfl (Z : State) (b : Addr) (kb : ClassId) (cs : List Int32) (h0 : Heap) (rv : Option Value) (h : Heap) (L : List Loc) : Prop := rv = some (.int (0 : Int32)) ∧ L = [] ∧ h = h0
theorem rm_cfl (l : Launch) (Z : State) (a0 : Array Value) (hw : ∀ d ∈ tables_1, d.before a0 Z = true) (b : Addr) (kb : ClassId) (cs : List Int32) (h0 : Heap) (O0 : Ext Z.heap h0) (B0 : AL Z h0 b kb .byte (by8 cs)) :
    Met1 l Z mN26 jdk_52_method_15_code 2 (some .byte) ({ frames := 0, cells := 0, slots := 0, locals := 0 } : Room) #[(.ref b), (.int cs.length.toInt32)] h0 (Q_cfl Z b kb cs h0) := by
  refine Met1.of_body (Ls := #[.val (.ref b), .val (.int cs.length.toInt32)]) pf_27 (fun m => by first | (simp [entryFrame, mkF, argsToLocals, Value.category]; done) | rfl) ?_
  intro p e s m below meth c T0 C X0 e0
  have N0 : Fr Z.heap.size [] := Fr.nil _
  refine Go.iloadN (pc' := 1) C X0 d27_0 rfl rfl ?_
  refine Go.aloadN (pc' := 2) C X0 d27_1 rfl rfl rfl ?_
  refine Go.alen (z := cs.length.toInt32) (pc' := 3) C X0 e0 B0 (by rw [by8_len]) d27_2 rfl ?_
  refine Go.isub (pc' := 4) C X0 d27_3 rfl ?_
  refine Go.bipush (z := (31 : Int32)) (pc' := 6) C X0 d27_4 rfl rfl ?_
  refine Go.iushr (pc' := 7) C X0 d27_6 rfl ?_
  refine Go.i2b (pc' := 8) C X0 d27_7 rfl ?_
  exact Go.retN C X0 rfl d27_8 (by simp) (by rw [e0]; exact ⟨(by rw [Int32.sub_self]; rfl), rfl, rfl⟩) (by decide) (by decide)
theorem pd_1 : parseMethodDescriptor "([CII)[B" = some ⟨[(.array .char), .int, .int], some (.array .byte)⟩ := by decide +kernel
theorem pd_2 : parseMethodDescriptor "([BI)B" = some ⟨[(.array .byte), .int], some .byte⟩ := by decide +kernel
theorem pf_24 : plainFor mN18 = true := plainFor_of_name (by first | (simp [plainName, overriddenIn]; done) | decide +kernel)
theorem d24_0 : decode jdk_42_method_149_code 0 = .ok (.aload_n 0, 1) := by decide +kernel
theorem d24_1 : decode jdk_42_method_149_code 1 = .ok (.invokespecial 1, 3) := by decide +kernel
theorem d24_4 : decode jdk_42_method_149_code 4 = .ok (.iload_n 3, 1) := by decide +kernel
theorem d24_5 : decode jdk_42_method_149_code 5 = .ok (.ifCond .ne 22, 3) := by decide +kernel
theorem d24_27 : decode jdk_42_method_149_code 27 = .ok (.getstatic 38, 3) := by decide +kernel
theorem d24_30 : decode jdk_42_method_149_code 30 = .ok (.ifCond .eq 28, 3) := by decide +kernel
theorem d24_33 : decode jdk_42_method_149_code 33 = .ok (.aload_n 1, 1) := by decide +kernel
theorem d24_34 : decode jdk_42_method_149_code 34 = .ok (.iload_n 2, 1) := by decide +kernel
theorem d24_35 : decode jdk_42_method_149_code 35 = .ok (.iload_n 3, 1) := by decide +kernel
theorem d24_36 : decode jdk_42_method_149_code 36 = .ok (.invokestatic 177, 3) := by decide +kernel
theorem d24_39 : decode jdk_42_method_149_code 39 = .ok (.astore 5, 2) := by decide +kernel
theorem d24_41 : decode jdk_42_method_149_code 41 = .ok (.aload_n 0, 1) := by decide +kernel
theorem d24_42 : decode jdk_42_method_149_code 42 = .ok (.aload 5, 2) := by decide +kernel
theorem d24_44 : decode jdk_42_method_149_code 44 = .ok (.iload_n 3, 1) := by decide +kernel
theorem d24_45 : decode jdk_42_method_149_code 45 = .ok (.invokestatic 47, 3) := by decide +kernel
theorem d24_48 : decode jdk_42_method_149_code 48 = .ok (.putfield 15, 3) := by decide +kernel
theorem d24_51 : decode jdk_42_method_149_code 51 = .ok (.aload_n 0, 1) := by decide +kernel
theorem d24_52 : decode jdk_42_method_149_code 52 = .ok (.aload 5, 2) := by decide +kernel
theorem d24_54 : decode jdk_42_method_149_code 54 = .ok (.putfield 9, 3) := by decide +kernel
theorem d24_57 : decode jdk_42_method_149_code 57 = .ok (.return_, 1) := by decide +kernel
def Q_sI4 (Z : State) (s1 : Addr) (a : Addr) (ka : ClassId) (cs : List Int32) (cP : Int32) (h0 : Heap) (rv : Option Value) (h : Heap) (L : List Loc) : Prop := ∃ v : Addr, ∃ kv : ClassId, rv = none ∧ Fr Z.heap.size L ∧ Keep h0 h [s1] ∧ h0.size ≤ v ∧ Fld Z h s1 "java/lang/String" "value" "[B" (.ref v) ∧ Fld Z h s1 "java/lang/String" "coder" "B" (.int (0 : Int32)) ∧ AL Z h v kv .byte (by8 cs)
theorem rm_sI4 (l : Launch) (Z : State) (a0 : Array Value) (hw : ∀ d ∈ tables_1, d.before a0 Z = true) (s1 : Addr) (a : Addr) (ka : ClassId) (cs : List Int32) (cP : Int32) (h0 : Heap) (O0 : Ext Z.heap h0) (E0 : Exa Z h0 s1 "java/lang/String") (Fv : Fld Z h0 s1 "java/lang/String" "value" "[B" .null) (Fc : Fld Z h0 s1 "java/lang/String" "coder" "B" (.int (0 : Int32))) (A0 : AL Z h0 a ka .char (ch16 cs)) (SC : Sta Z Z.heap "java/lang/String" "COMPACT_STRINGS" "Z" (.int cP)) (hcs : ∀ x ∈ cs, 0 ≤ x.toInt ∧ x.toInt ≤ 255) (hl : cs.length < 2 ^ 31) (hN : cs.length ≤ 16) (hpos : ¬ cs.length.toInt32 = (0 : Int32)) (hP : ¬ cP = (0 : Int32)) (hns : Z.heap.size ≤ s1) :
    Met1 l Z mN18 jdk_42_method_149_code 6 none ({ frames := 2, cells := 1, slots := 16, locals := 35 } : Room) #[(.ref s1), (.ref a), (.int (0 : Int32)), (.int cs.length.toInt32), .null] h0 (Q_sI4 Z s1 a ka cs cP h0) := by
  refine Met1.of_body (Ls := #[.val (.ref s1), .val (.ref a), .val (.int (0 : Int32)), .val (.int cs.length.toInt32), .val .null, .unset]) pf_24 (fun m => by first | (simp [entryFrame, mkF, argsToLocals, Value.category]; done) | rfl) ?_
  intro p e s m below meth c T0 C X0 e0
  have N0 : Fr Z.heap.size [] := Fr.nil _
  refine Go.aloadN (pc' := 1) C X0 d24_0 rfl rfl rfl ?_
  refine Go.initO (pc' := 4) (W := 0) C X0 (tw hw 88 rfl) (tw hw 56 rfl) (tw hw 57 rfl) e0 rfl (by decide) (Nat.le_of_eq rfl) (by decide) d24_1 rfl ?_
  intro T101 X101 e101
  refine Go.iloadN (pc' := 5) C X101 d24_4 rfl rfl ?_
  refine Go.ifYes (pc' := 27) C X101 d24_5 ((if0 _ _).trans (feq (x := cs.length.toInt32) (y := (0 : Int32)) hpos).2) (by decide) (by decide) ?_
  refine Go.getS (pc' := 30) (host := "") C X101 (Or.inl (tw hw 122 rfl)) Via.refl e101 (SC.ext O0) d24_27 rfl ?_
  intro T103 X103 e103
  refine Go.ifNo (pc' := 33) C X103 d24_30 ((if0 _ _).trans (feq (x := cP) (y := (0 : Int32)) hP).1) rfl ?_
  refine Go.aloadN (pc' := 34) C X103 d24_33 rfl rfl rfl ?_
  refine Go.iloadN (pc' := 35) C X103 d24_34 rfl rfl ?_
  refine Go.iloadN (pc' := 36) C X103 d24_35 rfl rfl ?_
  refine Go.callS (y := mN27) (pc' := 39) C X103 (tw hw 134 rfl) (tw hw 135 rfl) (by decide) (rm_cmpO l Z a0 hw a ka cs h0 O0 A0 hcs hl hN) (tw hw 137 rfl) (tw hw 136 rfl) e103 (argsL := [(.ref a), (.int (0 : Int32)), (.int cs.length.toInt32)]) (rest := []) (W := 0) rfl rfl pd_1 rfl (Nat.le_of_eq rfl) rfl (by decide) (by decide) (by decide) (by decide) d24_36 rfl ?_
  intro T105 v105 L105 X105 q105
  obtain ⟨b_105, kb_105, rfl, N105q, K105, B105_0, P105_0⟩ := q105
  have N105 := Fr.app N0 N105q
  have n_b_105 : Z.heap.size ≤ b_105 := Nat.le_trans O0.1 B105_0
  have z_b_105 : h0.size ≤ b_105 := Nat.le_trans (Nat.le_refl _) B105_0
  refine Go.astore (Ls' := #[.val (.ref s1), .val (.ref a), .val (.int (0 : Int32)), .val (.int cs.length.toInt32), .val .null, .val (.ref b_105)]) (pc' := 41) C X105 d24_39 rfl rfl rfl ?_
  refine Go.aloadN (pc' := 42) C X105 d24_41 rfl rfl rfl ?_
  refine Go.aload (pc' := 44) C X105 d24_42 rfl rfl rfl ?_
  refine Go.iloadN (pc' := 45) C X105 d24_44 rfl rfl ?_
  have O107 : Ext Z.heap T105.heap := (Ext.keep O0 K105 all0)
  refine Go.callS (y := mN26) (pc' := 48) C X105 (tw hw 141 rfl) (tw hw 142 rfl) (by decide) (rm_cfl l Z a0 hw b_105 kb_105 cs T105.heap O107 P105_0) (tw hw 143 rfl) (tw hw 136 rfl) rfl (argsL := [(.ref b_105), (.int cs.length.toInt32)]) (rest := [(.ref s1)]) (W := 1) rfl rfl pd_2 rfl (Nat.le_of_eq rfl) rfl (by decide) (by decide) (by decide) (by decide) d24_45 rfl ?_
  intro T106 v106 L106 X106 q106
  obtain ⟨rfl, rfl, e106⟩ := q106
  have N106 := Fr.app N105 (Fr.nil _)
  have c109 : Fld Z T105.heap s1 "java/lang/String" "coder" "B" (.int (0 : Int32)) := (Fld.keep Fc K105 nin0)
  have c110 : Exa Z T105.heap s1 "java/lang/String" := (Exa.keep E0 K105)
  refine Go.putFN (pc' := 51) (ty := .byte) (v' := .int (0 : Int32)) C X106 (tw hw 101 rfl) Via.refl e106 c109 c110 (Or.inr ⟨(tw hw 36 rfl), rfl, rfl⟩) (tw hw 34 rfl) (by decide) rfl (by decide) d24_48 rfl ?_
  intro T108 h108 X108 e108 W108 F108
  have N108 := Fr.snoc X108 N106 hns
  refine Go.aloadN (pc' := 52) C X108 d24_51 rfl rfl rfl ?_
  refine Go.aload (pc' := 54) C X108 d24_52 rfl rfl rfl ?_
  have c112 : Fld Z h108 s1 "java/lang/String" "value" "[B" .null := (Fld.other W108 (Fld.keep Fv K105 nin0) (Or.inr (slot_ne (Or.inr (tw hw 35 rfl)) (Or.inr (tw hw 36 rfl)) (by decide) (t := (.array .byte)) (t' := .byte) (by decide) (by decide))))
  have c113 : Exa Z h108 s1 "java/lang/String" := (Exa.wr W108 c110)
  refine Go.putF (pc' := 57) (host := "") (ty := (.array .byte)) C X108 (Or.inl (tw hw 115 rfl)) Via.refl e108 c112 c113 (Or.inr ⟨(tw hw 35 rfl), rfl, rfl⟩) (tw hw 34 rfl) (by decide) rfl rfl d24_54 rfl ?_
  intro T111 h111 X111 e111 W111 F111
  have N111 := Fr.snoc X111 N108 hns
  have K114 : Keep h0 h111 [s1] := ((((Keep.refl h0 [s1]).trans K105 all0).wr W108 (Or.inl (by simp))).wr W111 (Or.inl (by simp)))
  have c115 : Fld Z h111 s1 "java/lang/String" "coder" "B" (.int (0 : Int32)) := (Fld.other W111 F108 (Or.inr (slot_ne (Or.inr (tw hw 36 rfl)) (Or.inr (tw hw 35 rfl)) (by decide) (t := .byte) (t' := (.array .byte)) (by decide) (by decide))))
  have ne116 : b_105 ≠ s1 := (Nat.ne_of_gt (Nat.lt_of_lt_of_le E0.lt (Nat.le_trans (Nat.le_refl _) B105_0)))
  have c117 : AL Z h111 b_105 kb_105 .byte (by8 cs) := (AL.other W111 (AL.other W108 P105_0 ne116) ne116)
  exact Go.retV C X111 rfl d24_57 (by rw [e111]; exact ⟨b_105, kb_105, rfl, N111, K114, z_b_105, F111, c115, c117⟩) (by decide) (by decide)
theorem pd_3 : parseMethodDescriptor "([CIILjava/lang/Void;)V" = some ⟨[(.array .char), .int, .int, (.object "java/lang/Void")], none⟩ := by decide +kernel
theorem pf_23 : plainFor mN17 = true := plainFor_of_name (by first | (simp [plainName, overriddenIn]; done) | decide +kernel)
theorem d23_0 : decode jdk_42_method_3_code 0 = .ok (.aload_n 0, 1) := by decide +kernel
theorem d23_1 : decode jdk_42_method_3_code 1 = .ok (.aload_n 1, 1) := by decide +kernel
theorem d23_2 : decode jdk_42_method_3_code 2 = .ok (.iconst 0, 1) := by decide +kernel
theorem d23_3 : decode jdk_42_method_3_code 3 = .ok (.aload_n 1, 1) := by decide +kernel
theorem d23_4 : decode jdk_42_method_3_code 4 = .ok (.arraylength, 1) := by decide +kernel
theorem d23_5 : decode jdk_42_method_3_code 5 = .ok (.aconst_null, 1) := by decide +kernel
theorem d23_6 : decode jdk_42_method_3_code 6 = .ok (.invokespecial 27, 3) := by decide +kernel
theorem d23_9 : decode jdk_42_method_3_code 9 = .ok (.return_, 1) := by decide +kernel
def Q_sI1 (Z : State) (s1 : Addr) (a : Addr) (ka : ClassId) (cs : List Int32) (cP : Int32) (h0 : Heap) (rv : Option Value) (h : Heap) (L : List Loc) : Prop := ∃ v : Addr, ∃ kv : ClassId, rv = none ∧ Fr Z.heap.size L ∧ Keep h0 h [s1] ∧ h0.size ≤ v ∧ Fld Z h s1 "java/lang/String" "value" "[B" (.ref v) ∧ Fld Z h s1 "java/lang/String" "coder" "B" (.int (0 : Int32)) ∧ AL Z h v kv .byte (by8 cs)
theorem rm_sI1 (l : Launch) (Z : State) (a0 : Array Value) (hw : ∀ d ∈ tables_1, d.before a0 Z = true) (s1 : Addr) (a : Addr) (ka : ClassId) (cs : List Int32) (cP : Int32) (h0 : Heap) (O0 : Ext Z.heap h0) (E0 : Exa Z h0 s1 "java/lang/String") (Fv : Fld Z h0 s1 "java/lang/String" "value" "[B" .null) (Fc : Fld Z h0 s1 "java/lang/String" "coder" "B" (.int (0 : Int32))) (A0 : AL Z h0 a ka .char (ch16 cs)) (SC : Sta Z Z.heap "java/lang/String" "COMPACT_STRINGS" "Z" (.int cP)) (hcs : ∀ x ∈ cs, 0 ≤ x.toInt ∧ x.toInt ≤ 255) (hl : cs.length < 2 ^ 31) (hN : cs.length ≤ 16) (hpos : ¬ cs.length.toInt32 = (0 : Int32)) (hP : ¬ cP = (0 : Int32)) (hns : Z.heap.size ≤ s1) :
    Met1 l Z mN17 jdk_42_method_3_code 2 none ({ frames := 3, cells := 1, slots := 16, locals := 52 } : Room) #[(.ref s1), (.ref a)] h0 (Q_sI1 Z s1 a ka cs cP h0) := by
  refine Met1.of_body (Ls := #[.val (.ref s1), .val (.ref a)]) pf_23 (fun m => by first | (simp [entryFrame, mkF, argsToLocals, Value.category]; done) | rfl) ?_
  intro p e s m below meth c T0 C X0 e0
  have N0 : Fr Z.heap.size [] := Fr.nil _
  refine Go.aloadN (pc' := 1) C X0 d23_0 rfl rfl rfl ?_
  refine Go.aloadN (pc' := 2) C X0 d23_1 rfl rfl rfl ?_
  refine Go.iconst (z := (0 : Int32)) (pc' := 3) C X0 d23_2 rfl rfl ?_
  refine Go.aloadN (pc' := 4) C X0 d23_3 rfl rfl rfl ?_
  refine Go.alen (z := cs.length.toInt32) (pc' := 5) C X0 e0 A0 (by rw [ch16_len]) d23_4 rfl ?_
  refine Go.aconstNull (pc' := 6) C X0 d23_5 rfl ?_
  refine Go.callI (y := mN18) (a := s1) (pc' := 9) C X0 rfl (tw hw 131 rfl) (tw hw 132 rfl) (by decide) (rm_sI4 l Z a0 hw s1 a ka cs cP h0 O0 E0 Fv Fc A0 SC hcs hl hN hpos hP hns) (tw hw 133 rfl) (tw hw 33 rfl) e0 (argsL := [(.ref a), (.int (0 : Int32)), (.int cs.length.toInt32), .null]) (rest := []) (W := 0) rfl rfl pd_3 rfl (Nat.le_of_eq rfl) rfl (by decide) (by decide) (by decide) (by decide) rfl d23_6 rfl ?_
  intro T101 v101 L101 X101 q101
  obtain ⟨v_101, kv_101, rfl, N101q, K101, B101_0, P101_0, P101_1, P101_2⟩ := q101
  have N101 := Fr.app N0 N101q
  have n_v_101 : Z.heap.size ≤ v_101 := Nat.le_trans O0.1 B101_0
  have z_v_101 : h0.size ≤ v_101 := Nat.le_trans (Nat.le_refl _) B101_0
  have K102 : Keep h0 T101.heap [s1] := ((Keep.refl h0 [s1]).trans K101 (allS (Or.inl (by simp)) all0))
  exact Go.retV C X101 rfl d23_9 ⟨v_101, kv_101, rfl, N101, K102, z_v_101, P101_0, P101_1, P101_2⟩ (by decide) (by decide)
theorem d22_0 : decode jdk_43_method_13_code 0 = .ok (.aload_n 0, 1) := by decide +kernel
theorem d22_1 : decode jdk_43_method_13_code 1 = .ok (.arraylength, 1) := by decide +kernel
theorem d22_2 : decode jdk_43_method_13_code 2 = .ok (.aload_n 1, 1) := by decide +kernel
theorem d22_3 : decode jdk_43_method_13_code 3 = .ok (.arraylength, 1) := by decide +kernel
theorem d22_4 : decode jdk_43_method_13_code 4 = .ok (.if_icmp .ne 30, 3) := by decide +kernel
theorem d22_7 : decode jdk_43_method_13_code 7 = .ok (.iconst 0, 1) := by decide +kernel
theorem d22_8 : decode jdk_43_method_13_code 8 = .ok (.istore_n 2, 1) := by decide +kernel
theorem d22_9 : decode jdk_43_method_13_code 9 = .ok (.iload_n 2, 1) := by decide +kernel
theorem d22_10 : decode jdk_43_method_13_code 10 = .ok (.aload_n 0, 1) := by decide +kernel
theorem d22_11 : decode jdk_43_method_13_code 11 = .ok (.arraylength, 1) := by decide +kernel
theorem d22_12 : decode jdk_43_method_13_code 12 = .ok (.if_icmp .ge 20, 3) := by decide +kernel
theorem d22_15 : decode jdk_43_method_13_code 15 = .ok (.aload_n 0, 1) := by decide +kernel
theorem d22_16 : decode jdk_43_method_13_code 16 = .ok (.iload_n 2, 1) := by decide +kernel
theorem d22_17 : decode jdk_43_method_13_code 17 = .ok (.baload, 1) := by decide +kernel
theorem d22_18 : decode jdk_43_method_13_code 18 = .ok (.aload_n 1, 1) := by decide +kernel
theorem d22_19 : decode jdk_43_method_13_code 19 = .ok (.iload_n 2, 1) := by decide +kernel
theorem d22_20 : decode jdk_43_method_13_code 20 = .ok (.baload, 1) := by decide +kernel
theorem d22_21 : decode jdk_43_method_13_code 21 = .ok (.if_icmp .eq 5, 3) := by decide +kernel
theorem d22_24 : decode jdk_43_method_13_code 24 = .ok (.iconst 0, 1) := by decide +kernel
theorem d22_25 : decode jdk_43_method_13_code 25 = .ok (.ireturn, 1) := by decide +kernel
theorem d22_26 : decode jdk_43_method_13_code 26 = .ok (.iinc 2 1, 3) := by decide +kernel
theorem d22_29 : decode jdk_43_method_13_code 29 = .ok (.goto (-20), 3) := by decide +kernel
theorem d22_32 : decode jdk_43_method_13_code 32 = .ok (.iconst 1, 1) := by decide +kernel
theorem d22_33 : decode jdk_43_method_13_code 33 = .ok (.ireturn, 1) := by decide +kernel
theorem d22_34 : decode jdk_43_method_13_code 34 = .ok (.iconst 0, 1) := by decide +kernel
theorem d22_35 : decode jdk_43_method_13_code 35 = .ok (.ireturn, 1) := by decide +kernel
theorem lp_equals {p : Program} {l : Launch} {e : Env} {R : Room} {s : State} {m : MethodId} {args : Array Value} {below : List Frame} {meth : Method} {c : Code} {Z : State} {Fin' : Outcome → State → Prop} {a b : Addr} {ka kb : ClassId} {xs ys : List Int32} (C : Cx p s m meth c Z "java/lang/StringLatin1" "equals" jdk_43_method_13_code 3 (some .boolean)) (hl : xs.length < 2 ^ 31) (hle : ys.length = xs.length) {T : State} {locs : List Loc} {cells slots : Nat} {h : Heap} (X : Stand p l e R s m args below meth c T locs cells slots) (e0 : T.heap = h) (A : AL Z h a ka .byte (by8 xs)) (B : AL Z h b kb .byte (by8 ys))
    (KT : by8 xs = by8 ys → ∀ i : Int32, Go p e below Fin' T (mkF m 32 #[.val (.ref a), .val (.ref b), .val (.int i)] [])) (KF : by8 xs ≠ by8 ys → ∀ i : Int32, Go p e below Fin' T (mkF m 24 #[.val (.ref a), .val (.ref b), .val (.int i)] [])) :
    ∀ (k n : Nat), n + k = xs.length → by8 (xs.take n) = by8 (ys.take n) → Go p e below Fin' T (mkF m 9 #[.val (.ref a), .val (.ref b), .val (.int n.toInt32)] []) := by
  intro k
  induction k with
  | zero =>
    intro n hn hq
    have hn' : n = xs.length := by omega
    subst hn'
    refine Go.iloadN (pc' := 10) C X d22_9 rfl rfl ?_
    refine Go.aloadN (pc' := 11) C X d22_10 rfl rfl rfl ?_
    refine Go.alen (z := xs.length.toInt32) (pc' := 12) C X e0 A (by rw [by8_len]) d22_11 rfl ?_
    refine Go.icmpYes (pc' := 32) C X d22_12 (flt (x := xs.length.toInt32) (y := xs.length.toInt32) (fun q => absurd ((n32_lt hl hl).mp q) (Nat.lt_irrefl _))).2.1 (by decide) (by decide) ?_
    refine KT ?_ _
    rw [List.take_length, List.take_of_length_le (by omega)] at hq
    exact hq
  | succ k ih =>
    intro n hn hq
    have hlt : n < xs.length := by omega
    have hlt' : n < ys.length := by omega
    have hn31 : n < 2 ^ 31 := by omega
    have g1 : (by8 xs)[n]? = some (.int (xs[n]).toInt8.toInt32) := by simp [by8, hlt]
    have g2 : (by8 ys)[n]? = some (.int (ys[n]).toInt8.toInt32) := by simp [by8, hlt']
    refine Go.iloadN (pc' := 10) C X d22_9 rfl rfl ?_
    refine Go.aloadN (pc' := 11) C X d22_10 rfl rfl rfl ?_
    refine Go.alen (z := xs.length.toInt32) (pc' := 12) C X e0 A (by rw [by8_len]) d22_11 rfl ?_
    refine Go.icmpNo (pc' := 15) C X d22_12 (tlt (x := n.toInt32) (y := xs.length.toInt32) ((n32_lt hn31 hl).mpr hlt)).2.1 rfl ?_
    refine Go.aloadN (pc' := 16) C X d22_15 rfl rfl rfl ?_
    refine Go.iloadN (pc' := 17) C X d22_16 rfl rfl ?_
    refine Go.ldB (i := n) (v := .int (xs[n]).toInt8.toInt32) (pc' := 18) C X e0 A (n32_neg hn31) (n32_nat hn31) g1 d22_17 rfl ?_
    refine Go.aloadN (pc' := 19) C X d22_18 rfl rfl rfl ?_
    refine Go.iloadN (pc' := 20) C X d22_19 rfl rfl ?_
    refine Go.ldB (i := n) (v := .int (ys[n]).toInt8.toInt32) (pc' := 21) C X e0 B (n32_neg hn31) (n32_nat hn31) g2 d22_20 rfl ?_
    by_cases hc : (xs[n]).toInt8.toInt32 = (ys[n]).toInt8.toInt32
    · refine Go.icmpYes (pc' := 26) C X d22_21 (teq hc).1 (by decide) (by decide) ?_
      refine Go.iinc (Ls' := #[.val (.ref a), .val (.ref b), .val (.int (n + 1).toInt32)]) (z := (1 : Int32)) (pc' := 29) C X d22_26 rfl rfl (by rw [n32_succ]; rfl) rfl ?_
      refine Go.goto (pc' := 9) C X d22_29 (by decide) (by decide) ?_
      refine ih (n + 1) (by omega) ?_
      have e1 : xs.take (n + 1) = xs.take n ++ [xs[n]] := by rw [List.take_add_one, List.getElem?_eq_getElem hlt]; rfl
      have e2 : ys.take (n + 1) = ys.take n ++ [ys[n]] := by rw [List.take_add_one, List.getElem?_eq_getElem hlt']; rfl
      rw [e1, e2]
      simp only [by8, List.map_append, List.map_cons, List.map_nil] at hq ⊢
      rw [hq, hc]
    · refine Go.icmpNo (pc' := 24) C X d22_21 (feq hc).1 rfl ?_
      refine KF (fun q => hc ?_) _
      rw [q, g2] at g1
      exact (Value.int.inj (Option.some.inj g1)).symm
theorem pf_22 : plainFor mN25 = true := plainFor_of_name (by first | (simp [plainName, overriddenIn]; done) | decide +kernel)
def Q_eqB (Z : State) (a : Addr) (b : Addr) (ka : ClassId) (kb : ClassId) (xs : List Int32) (ys : List Int32) (h0 : Heap) (rv : Option Value) (h : Heap) (L : List Loc) : Prop := rv = some (.int (if by8 xs = by8 ys then (1 : Int32) else 0)) ∧ L = [] ∧ h = h0
theorem rm_eqB (l : Launch) (Z : State) (a0 : Array Value) (hw : ∀ d ∈ tables_1, d.before a0 Z = true) (a : Addr) (b : Addr) (ka : ClassId) (kb : ClassId) (xs : List Int32) (ys : List Int32) (h0 : Heap) (O0 : Ext Z.heap h0) (A0 : AL Z h0 a ka .byte (by8 xs)) (B0 : AL Z h0 b kb .byte (by8 ys)) (hl : xs.length < 2 ^ 31) (hl2 : ys.length < 2 ^ 31) :
    Met1 l Z mN25 jdk_43_method_13_code 3 (some .boolean) ({ frames := 0, cells := 0, slots := 0, locals := 0 } : Room) #[(.ref a), (.ref b)] h0 (Q_eqB Z a b ka kb xs ys h0) := by
  refine Met1.of_body (Ls := #[.val (.ref a), .val (.ref b), .unset]) pf_22 (fun m => by first | (simp [entryFrame, mkF, argsToLocals, Value.category]; done) | rfl) ?_
  intro p e s m below meth c T0 C X0 e0
  have N0 : Fr Z.heap.size [] := Fr.nil _
  refine Go.aloadN (pc' := 1) C X0 d22_0 rfl rfl rfl ?_
  refine Go.alen (z := xs.length.toInt32) (pc' := 2) C X0 e0 A0 (by rw [by8_len]) d22_1 rfl ?_
  refine Go.aloadN (pc' := 3) C X0 d22_2 rfl rfl rfl ?_
  refine Go.alen (z := ys.length.toInt32) (pc' := 4) C X0 e0 B0 (by rw [by8_len]) d22_3 rfl ?_
  by_cases hc : xs.length = ys.length
  · refine Go.icmpNo (pc' := 7) C X0 d22_4 (teq ((n32_eq hl hl2).mpr hc)).2 rfl ?_
    refine Go.iconst (z := (0 : Int32)) (pc' := 8) C X0 d22_7 rfl rfl ?_
    refine Go.istoreN (Ls' := #[.val (.ref a), .val (.ref b), .val (.int (0 : Int32))]) (pc' := 9) C X0 d22_8 rfl rfl ?_
    refine lp_equals C hl hc.symm X0 e0 A0 B0 ?_ ?_ xs.length 0 (by omega) (by simp [by8])
    · intro hq i
      refine Go.iconst (z := (1 : Int32)) (pc' := 33) C X0 d22_32 rfl rfl ?_
      exact Go.retN C X0 rfl d22_33 (by simp) (by rw [e0]; exact ⟨by rw [if_pos hq]; rfl, rfl, rfl⟩) (by decide) (by decide)
    · intro hq i
      refine Go.iconst (z := (0 : Int32)) (pc' := 25) C X0 d22_24 rfl rfl ?_
      exact Go.retN C X0 rfl d22_25 (by simp) (by rw [e0]; exact ⟨by rw [if_neg hq]; rfl, rfl, rfl⟩) (by decide) (by decide)
  · refine Go.icmpYes (pc' := 34) C X0 d22_4 (feq (fun q => hc ((n32_eq hl hl2).mp q))).2 (by decide) (by decide) ?_
    refine Go.iconst (z := (0 : Int32)) (pc' := 35) C X0 d22_34 rfl rfl ?_
    have hq : by8 xs ≠ by8 ys := fun q => hc (by have := congrArg List.length q; simpa [by8_len] using this)
    exact Go.retN C X0 rfl d22_35 (by simp) (by rw [e0]; exact ⟨by rw [if_neg hq]; rfl, rfl, rfl⟩) (by decide) (by decide)
theorem pf_21 : plainFor mN19 = true := plainFor_of_name (by first | (simp [plainName, overriddenIn]; done) | decide +kernel)
theorem d21_0 : decode jdk_42_method_66_code 0 = .ok (.aload_n 0, 1) := by decide +kernel
theorem d21_1 : decode jdk_42_method_66_code 1 = .ok (.aload_n 1, 1) := by decide +kernel
theorem d21_2 : decode jdk_42_method_66_code 2 = .ok (.if_acmp .ne 5, 3) := by decide +kernel
theorem d21_5 : decode jdk_42_method_66_code 5 = .ok (.iconst 1, 1) := by decide +kernel
theorem d21_6 : decode jdk_42_method_66_code 6 = .ok (.ireturn, 1) := by decide +kernel
def Q_eqSame (Z : State) (s1 : Addr) (h0 : Heap) (rv : Option Value) (h : Heap) (L : List Loc) : Prop := rv = some (.int (1 : Int32)) ∧ L = [] ∧ h = h0
theorem rm_eqSame (l : Launch) (Z : State) (a0 : Array Value) (hw : ∀ d ∈ tables_1, d.before a0 Z = true) (s1 : Addr) (h0 : Heap) (O0 : Ext Z.heap h0) :
    Met1 l Z mN19 jdk_42_method_66_code 3 (some .boolean) ({ frames := 0, cells := 0, slots := 0, locals := 0 } : Room) #[(.ref s1), (.ref s1)] h0 (Q_eqSame Z s1 h0) := by
  refine Met1.of_body (Ls := #[.val (.ref s1), .val (.ref s1), .unset]) pf_21 (fun m => by first | (simp [entryFrame, mkF, argsToLocals, Value.category]; done) | rfl) ?_
  intro p e s m below meth c T0 C X0 e0
  have N0 : Fr Z.heap.size [] := Fr.nil _
  refine Go.aloadN (pc' := 1) C X0 d21_0 rfl rfl rfl ?_
  refine Go.aloadN (pc' := 2) C X0 d21_1 rfl rfl rfl ?_
  refine Go.acmpNo (pc' := 5) C X0 d21_2 rfl rfl (XT.aa_ne_f rfl) rfl ?_
  refine Go.iconst (z := (1 : Int32)) (pc' := 6) C X0 d21_5 rfl rfl ?_
  exact Go.retN C X0 rfl d21_6 (by simp) (by rw [e0]; exact ⟨rfl, rfl, rfl⟩) (by decide) (by decide)
theorem d21_7 : decode jdk_42_method_66_code 7 = .ok (.aload_n 1, 1) := by decide +kernel
theorem d21_8 : decode jdk_42_method_66_code 8 = .ok (.instanceof 10, 3) := by decide +kernel
theorem d21_11 : decode jdk_42_method_66_code 11 = .ok (.ifCond .eq 43, 3) := by decide +kernel
theorem d21_54 : decode jdk_42_method_66_code 54 = .ok (.iconst 0, 1) := by decide +kernel
theorem d21_55 : decode jdk_42_method_66_code 55 = .ok (.ireturn, 1) := by decide +kernel
def Q_eqNull (Z : State) (s1 : Addr) (h0 : Heap) (rv : Option Value) (h : Heap) (L : List Loc) : Prop := rv = some (.int (0 : Int32)) ∧ L = [] ∧ h = h0
theorem rm_eqNull (l : Launch) (Z : State) (a0 : Array Value) (hw : ∀ d ∈ tables_1, d.before a0 Z = true) (s1 : Addr) (h0 : Heap) (O0 : Ext Z.heap h0) :
    Met1 l Z mN19 jdk_42_method_66_code 3 (some .boolean) ({ frames := 0, cells := 0, slots := 0, locals := 0 } : Room) #[(.ref s1), .null] h0 (Q_eqNull Z s1 h0) := by
  refine Met1.of_body (Ls := #[.val (.ref s1), .val .null, .unset]) pf_21 (fun m => by first | (simp [entryFrame, mkF, argsToLocals, Value.category]; done) | rfl) ?_
  intro p e s m below meth c T0 C X0 e0
  have N0 : Fr Z.heap.size [] := Fr.nil _
  refine Go.aloadN (pc' := 1) C X0 d21_0 rfl rfl rfl ?_
  refine Go.aloadN (pc' := 2) C X0 d21_1 rfl rfl rfl ?_
  refine Go.acmpYes (pc' := 7) C X0 d21_2 rfl rfl (XT.aa_ne_t nofun) (by decide) (by decide) ?_
  refine Go.aloadN (pc' := 8) C X0 d21_7 rfl rfl rfl ?_
  refine Go.instNull (pc' := 11) C X0 d21_8 rfl ?_
  refine Go.ifYes (pc' := 54) C X0 d21_11 ((if0 _ _).trans (teq (x := (0 : Int32)) (y := (0 : Int32)) (by decide)).1) (by decide) (by decide) ?_
  refine Go.iconst (z := (0 : Int32)) (pc' := 55) C X0 d21_54 rfl rfl ?_
  exact Go.retN C X0 rfl d21_55 (by simp) (by rw [e0]; exact ⟨rfl, rfl, rfl⟩) (by decide) (by decide)
theorem own_if1 {P : Prop} [Decidable P] (h : ¬ (if P then (1 : Int32) else 0) = (0 : Int32)) : some (Value.int (nar .boolean (1 : Int32))) = some (Value.int (if P then (1 : Int32) else 0)) := by
  by_cases q : P
  · rw [if_pos q]; rfl
  · rw [if_neg q] at h; exact absurd rfl h
theorem own_if0 {P : Prop} [Decidable P] (h : (if P then (1 : Int32) else 0) = (0 : Int32)) : some (Value.int (nar .boolean (0 : Int32))) = some (Value.int (if P then (1 : Int32) else 0)) := by
  rw [h]; rfl
theorem pd_4 : parseMethodDescriptor "([B[B)Z" = some ⟨[(.array .byte), (.array .byte)], some .boolean⟩ := by decide +kernel
theorem d21_14 : decode jdk_42_method_66_code 14 = .ok (.aload_n 1, 1) := by decide +kernel
theorem d21_15 : decode jdk_42_method_66_code 15 = .ok (.checkcast 10, 3) := by decide +kernel
theorem d21_18 : decode jdk_42_method_66_code 18 = .ok (.astore_n 2, 1) := by decide +kernel
theorem d21_19 : decode jdk_42_method_66_code 19 = .ok (.getstatic 38, 3) := by decide +kernel
theorem d21_22 : decode jdk_42_method_66_code 22 = .ok (.ifCond .eq 14, 3) := by decide +kernel
theorem d21_25 : decode jdk_42_method_66_code 25 = .ok (.aload_n 0, 1) := by decide +kernel
theorem d21_26 : decode jdk_42_method_66_code 26 = .ok (.getfield 15, 3) := by decide +kernel
theorem d21_29 : decode jdk_42_method_66_code 29 = .ok (.aload_n 2, 1) := by decide +kernel
theorem d21_30 : decode jdk_42_method_66_code 30 = .ok (.getfield 15, 3) := by decide +kernel
theorem d21_33 : decode jdk_42_method_66_code 33 = .ok (.if_icmp .ne 21, 3) := by decide +kernel
theorem d21_36 : decode jdk_42_method_66_code 36 = .ok (.aload_n 0, 1) := by decide +kernel
theorem d21_37 : decode jdk_42_method_66_code 37 = .ok (.getfield 9, 3) := by decide +kernel
theorem d21_40 : decode jdk_42_method_66_code 40 = .ok (.aload_n 2, 1) := by decide +kernel
theorem d21_41 : decode jdk_42_method_66_code 41 = .ok (.getfield 9, 3) := by decide +kernel
theorem d21_44 : decode jdk_42_method_66_code 44 = .ok (.invokestatic 541, 3) := by decide +kernel
theorem d21_47 : decode jdk_42_method_66_code 47 = .ok (.ifCond .eq 7, 3) := by decide +kernel
theorem d21_50 : decode jdk_42_method_66_code 50 = .ok (.iconst 1, 1) := by decide +kernel
theorem d21_51 : decode jdk_42_method_66_code 51 = .ok (.goto 4, 3) := by decide +kernel
def Q_eqS (Z : State) (s1 : Addr) (s2 : Addr) (v1 : Addr) (v2 : Addr) (k1 : ClassId) (k2 : ClassId) (xs : List Int32) (ys : List Int32) (cP : Int32) (h0 : Heap) (rv : Option Value) (h : Heap) (L : List Loc) : Prop := rv = some (.int (if by8 xs = by8 ys then (1 : Int32) else 0)) ∧ L = [] ∧ h = h0
theorem rm_eqS (l : Launch) (Z : State) (a0 : Array Value) (hw : ∀ d ∈ tables_1, d.before a0 Z = true) (s1 : Addr) (s2 : Addr) (v1 : Addr) (v2 : Addr) (k1 : ClassId) (k2 : ClassId) (xs : List Int32) (ys : List Int32) (cP : Int32) (h0 : Heap) (O0 : Ext Z.heap h0) (SC : Sta Z Z.heap "java/lang/String" "COMPACT_STRINGS" "Z" (.int cP)) (E1 : Exa Z h0 s1 "java/lang/String") (V1 : Fld Z h0 s1 "java/lang/String" "value" "[B" (.ref v1)) (C1 : Fld Z h0 s1 "java/lang/String" "coder" "B" (.int (0 : Int32))) (B1 : AL Z h0 v1 k1 .byte (by8 xs)) (E2 : Exa Z h0 s2 "java/lang/String") (V2 : Fld Z h0 s2 "java/lang/String" "value" "[B" (.ref v2)) (C2 : Fld Z h0 s2 "java/lang/String" "coder" "B" (.int (0 : Int32))) (B2 : AL Z h0 v2 k2 .byte (by8 ys)) (hne : s1 ≠ s2) (hP : ¬ cP = (0 : Int32)) (hl : xs.length < 2 ^ 31) (hl2 : ys.length < 2 ^ 31) :
    Met1 l Z mN19 jdk_42_method_66_code 3 (some .boolean) ({ frames := 1, cells := 0, slots := 0, locals := 14 } : Room) #[(.ref s1), (.ref s2)] h0 (Q_eqS Z s1 s2 v1 v2 k1 k2 xs ys cP h0) := by
  refine Met1.of_body (Ls := #[.val (.ref s1), .val (.ref s2), .unset]) pf_21 (fun m => by first | (simp [entryFrame, mkF, argsToLocals, Value.category]; done) | rfl) ?_
  intro p e s m below meth c T0 C X0 e0
  have N0 : Fr Z.heap.size [] := Fr.nil _
  refine Go.aloadN (pc' := 1) C X0 d21_0 rfl rfl rfl ?_
  refine Go.aloadN (pc' := 2) C X0 d21_1 rfl rfl rfl ?_
  refine Go.acmpYes (pc' := 7) C X0 d21_2 rfl rfl (XT.aa_ne_t (fun q => hne (Value.ref.inj q))) (by decide) (by decide) ?_
  refine Go.aloadN (pc' := 8) C X0 d21_7 rfl rfl rfl ?_
  refine Go.instY (pc' := 11) C X0 (tw hw 121 rfl) e0 (Ins.self E2) d21_8 rfl ?_
  intro T101 X101 e101
  refine Go.ifNo (pc' := 14) C X101 d21_11 ((if0 _ _).trans (feq (x := (1 : Int32)) (y := (0 : Int32)) (by decide)).1) rfl ?_
  refine Go.aloadN (pc' := 15) C X101 d21_14 rfl rfl rfl ?_
  refine Go.castY (pc' := 18) C X101 (tw hw 121 rfl) e101 (Ins.self E2) d21_15 rfl ?_
  intro T103 X103 e103
  refine Go.astoreN (Ls' := #[.val (.ref s1), .val (.ref s2), .val (.ref s2)]) (pc' := 19) C X103 d21_18 rfl rfl rfl ?_
  refine Go.getS (pc' := 22) (host := "") C X103 (Or.inl (tw hw 122 rfl)) Via.refl e103 (SC.ext O0) d21_19 rfl ?_
  intro T104 X104 e104
  refine Go.ifNo (pc' := 25) C X104 d21_22 ((if0 _ _).trans (feq (x := cP) (y := (0 : Int32)) hP).1) rfl ?_
  refine Go.aloadN (pc' := 26) C X104 d21_25 rfl rfl rfl ?_
  refine Go.getF (pc' := 29) (host := "") C X104 (Or.inl (tw hw 101 rfl)) Via.refl e104 C1 d21_26 rfl ?_
  intro T106 X106 e106
  refine Go.aloadN (pc' := 30) C X106 d21_29 rfl rfl rfl ?_
  refine Go.getF (pc' := 33) (host := "") C X106 (Or.inl (tw hw 101 rfl)) Via.refl e106 C2 d21_30 rfl ?_
  intro T107 X107 e107
  refine Go.icmpNo (pc' := 36) C X107 d21_33 (teq (x := (0 : Int32)) (y := (0 : Int32)) (by decide)).2 rfl ?_
  refine Go.aloadN (pc' := 37) C X107 d21_36 rfl rfl rfl ?_
  refine Go.getF (pc' := 40) (host := "") C X107 (Or.inl (tw hw 115 rfl)) Via.refl e107 V1 d21_37 rfl ?_
  intro T109 X109 e109
  refine Go.aloadN (pc' := 41) C X109 d21_40 rfl rfl rfl ?_
  refine Go.getF (pc' := 44) (host := "") C X109 (Or.inl (tw hw 115 rfl)) Via.refl e109 V2 d21_41 rfl ?_
  intro T110 X110 e110
  refine Go.callS (y := mN25) (pc' := 47) C X110 (tw hw 123 rfl) (tw hw 124 rfl) (by decide) (rm_eqB l Z a0 hw v1 v2 k1 k2 xs ys h0 O0 B1 B2 hl hl2) (tw hw 126 rfl) (tw hw 125 rfl) e110 (argsL := [(.ref v1), (.ref v2)]) (rest := []) (W := 0) rfl rfl pd_4 rfl (Nat.le_of_eq rfl) rfl (by decide) (by decide) (by decide) (by decide) d21_44 rfl ?_
  intro T111 v111 L111 X111 q111
  obtain ⟨rfl, rfl, e111⟩ := q111
  have N111 := Fr.app N0 (Fr.nil _)
  by_cases hc47_112 : (if by8 xs = by8 ys then (1 : Int32) else 0) = (0 : Int32)
  · refine Go.ifYes (pc' := 54) C X111 d21_47 ((if0 _ _).trans (teq (x := (if by8 xs = by8 ys then (1 : Int32) else 0)) (y := (0 : Int32)) hc47_112).1) (by decide) (by decide) ?_
    refine Go.iconst (z := (0 : Int32)) (pc' := 55) C X111 d21_54 rfl rfl ?_
    exact Go.retN C X111 rfl d21_55 (by simp) (by rw [e111]; exact ⟨(own_if0 hc47_112), (by simp), rfl⟩) (by decide) (by decide)
  · refine Go.ifNo (pc' := 50) C X111 d21_47 ((if0 _ _).trans (feq (x := (if by8 xs = by8 ys then (1 : Int32) else 0)) (y := (0 : Int32)) hc47_112).1) rfl ?_
    refine Go.iconst (z := (1 : Int32)) (pc' := 51) C X111 d21_50 rfl rfl ?_
    refine Go.goto (pc' := 55) C X111 d21_51 (by decide) (by decide) ?_
    exact Go.retN C X111 rfl d21_55 (by simp) (by rw [e111]; exact ⟨(own_if1 hc47_112), (by simp), rfl⟩) (by decide) (by decide)
theorem EWc {a0 : Array Value} {Z : State} (hw : ∀ d ∈ tables_1, d.before a0 Z = true) : EW Z a0 consts_1 := by
  intro p hp
  simp only [consts_1, List.mem_cons, List.not_mem_nil, or_false] at hp
  rcases hp with rfl
  · exact ⟨"", (tw hw 32 rfl), by decide⟩
theorem by8_get {xs : List Int32} {i : Nat} {x : Int32} (h : xs[i]? = some x) : (by8 xs)[i]? = some (.int x.toInt8.toInt32) := by simp [by8, h]
theorem sh0 (x : Int32) : (x >>> ((0 : Int32) &&& 31)) = x := by
  have q := c_ishr x (0 : Int32) 0 (by decide)
  apply Int32.toInt_inj.mp
  rw [q]; simp
theorem r255 (y : Int32) : 0 ≤ (y &&& (255 : Int32)).toInt ∧ (y &&& (255 : Int32)).toInt ≤ 255 := by
  have h := c_and y (255 : Int32) (by decide)
  simpa using h
theorem u255 {x : Int32} (h : 0 ≤ x.toInt ∧ x.toInt ≤ 255) : (x.toInt8.toInt32 &&& (255 : Int32)) = x := by
  have h1 := c_i2b x
  have h2 := c_mask x.toInt8.toInt32 (255 : Int32) 8 (by decide) (by decide)
  exact Int32.toInt_inj.mp (by omega)
theorem i2cr {y : Int32} (h : 0 ≤ y.toInt ∧ y.toInt ≤ 255) : y.toUInt32.toUInt16.toUInt32.toInt32 = y := by
  have q := c_i2c y
  exact Int32.toInt_inj.mp (by omega)
theorem narcr {y : Int32} (h : 0 ≤ y.toInt ∧ y.toInt ≤ 255) : nar .char y = y := i2cr h
theorem cch {x : Int32} (h : 0 ≤ x.toInt ∧ x.toInt ≤ 255) : some (Value.int (nar .char ((x.toInt8.toInt32 &&& (255 : Int32)).toUInt32.toUInt16.toUInt32.toInt32))) = some (Value.int x) := by
  rw [u255 h, i2cr h, narcr h]
theorem by8_set (ys : List Int32) (i : Nat) (y : Int32) : (by8 ys).set i (.int y.toInt8.toInt32) = by8 (ys.set i y) := by simp [by8, List.map_set]
theorem by8_rep (n : Nat) : List.replicate n (Value.int (0 : Int32)) = by8 (List.replicate n 0) := by simp [by8]
theorem fit8 (cs : List Int32) : ∀ v ∈ by8 cs, fits .byte v = true := by
  intro v hv
  obtain ⟨x, -, rfl⟩ := List.mem_map.mp hv
  have := fits_nar_byte x.toInt8.toInt32
  simpa using this
theorem lt255r {y : Int32} (h : 0 ≤ y.toInt ∧ y.toInt ≤ 255) : ¬ (255 : Int32) < y := by rw [Int32.lt_iff_toInt_lt]; simp only [Int32.reduceToInt]; omega
theorem capok {k n : Nat} (hk : k < n) (hn : n ≤ 16) : ¬ (0 : Int32) < ((k + 1).toInt32 - (n.toInt32 >>> ((0 : Int32) &&& 31))) := by
  rw [sh0]
  have v := c_isub (k + 1).toInt32 n.toInt32
  have r := rng32 ((k + 1).toInt32 - n.toInt32)
  rw [n32_int (by omega), n32_int (by omega)] at v
  rw [Int32.lt_iff_toInt_lt]; simp only [Int32.reduceToInt]; omega
theorem pf_11 : plainFor mN7 = true := plainFor_of_name (by first | (simp [plainName, overriddenIn]; done) | decide +kernel)
theorem d11_0 : decode jdk_68_method_2_code 0 = .ok (.aload_n 0, 1) := by decide +kernel
theorem d11_1 : decode jdk_68_method_2_code 1 = .ok (.invokespecial 3, 3) := by decide +kernel
theorem d11_4 : decode jdk_68_method_2_code 4 = .ok (.getstatic 18, 3) := by decide +kernel
theorem d11_7 : decode jdk_68_method_2_code 7 = .ok (.ifCond .eq 18, 3) := by decide +kernel
theorem d11_10 : decode jdk_68_method_2_code 10 = .ok (.aload_n 0, 1) := by decide +kernel
theorem d11_11 : decode jdk_68_method_2_code 11 = .ok (.iload_n 1, 1) := by decide +kernel
theorem d11_12 : decode jdk_68_method_2_code 12 = .ok (.newarray .byte, 2) := by decide +kernel
theorem d11_14 : decode jdk_68_method_2_code 14 = .ok (.putfield 15, 3) := by decide +kernel
theorem d11_17 : decode jdk_68_method_2_code 17 = .ok (.aload_n 0, 1) := by decide +kernel
theorem d11_18 : decode jdk_68_method_2_code 18 = .ok (.iconst 0, 1) := by decide +kernel
theorem d11_19 : decode jdk_68_method_2_code 19 = .ok (.putfield 22, 3) := by decide +kernel
theorem d11_22 : decode jdk_68_method_2_code 22 = .ok (.goto 16, 3) := by decide +kernel
theorem d11_38 : decode jdk_68_method_2_code 38 = .ok (.return_, 1) := by decide +kernel
def Q_abI (Z : State) (b : Addr) (N : Nat) (cP : Int32) (h0 : Heap) (rv : Option Value) (h : Heap) (L : List Loc) : Prop := ∃ w : Addr, ∃ kw : ClassId, rv = none ∧ Fr Z.heap.size L ∧ Keep h0 h [b] ∧ h0.size ≤ w ∧ Fld Z h b "java/lang/AbstractStringBuilder" "value" "[B" (.ref w) ∧ Fld Z h b "java/lang/AbstractStringBuilder" "coder" "B" (.int (0 : Int32)) ∧ Fld Z h b "java/lang/AbstractStringBuilder" "count" "I" (.int (0 : Int32)) ∧ Exa Z h w "[B" ∧ AL Z h w kw .byte (by8 (List.replicate N 0))
theorem rm_abI (l : Launch) (Z : State) (a0 : Array Value) (hw : ∀ d ∈ tables_1, d.before a0 Z = true) (b : Addr) (N : Nat) (cP : Int32) (h0 : Heap) (O0 : Ext Z.heap h0) (E0 : Exa Z h0 b "java/lang/StringBuilder") (F1 : Fld Z h0 b "java/lang/AbstractStringBuilder" "value" "[B" .null) (F2 : Fld Z h0 b "java/lang/AbstractStringBuilder" "coder" "B" (.int (0 : Int32))) (F3 : Fld Z h0 b "java/lang/AbstractStringBuilder" "count" "I" (.int (0 : Int32))) (SC : Sta Z Z.heap "java/lang/String" "COMPACT_STRINGS" "Z" (.int cP)) (hn : Z.heap.size ≤ b) (hP : ¬ cP = (0 : Int32)) (hN : N ≤ 16) :
    Met1 l Z mN7 jdk_68_method_2_code 2 none ({ frames := 1, cells := 1, slots := 16, locals := 12 } : Room) #[(.ref b), (.int N.toInt32)] h0 (Q_abI Z b N cP h0) := by
  refine Met1.of_body (Ls := #[.val (.ref b), .val (.int N.toInt32)]) pf_11 (fun m => by first | (simp [entryFrame, mkF, argsToLocals, Value.category]; done) | rfl) ?_
  intro p e s m below meth c T0 C X0 e0
  have N0 : Fr Z.heap.size [] := Fr.nil _
  refine Go.aloadN (pc' := 1) C X0 d11_0 rfl rfl rfl ?_
  refine Go.initO (pc' := 4) (W := 0) C X0 (tw hw 55 rfl) (tw hw 56 rfl) (tw hw 57 rfl) e0 rfl (by decide) (Nat.le_of_eq rfl) (by decide) d11_1 rfl ?_
  intro T101 X101 e101
  refine Go.getS (pc' := 7) (host := "") C X101 (Or.inl (tw hw 58 rfl)) Via.refl e101 (SC.ext O0) d11_4 rfl ?_
  intro T102 X102 e102
  refine Go.ifNo (pc' := 10) C X102 d11_7 ((if0 _ _).trans (feq (x := cP) (y := (0 : Int32)) hP).1) rfl ?_
  refine Go.aloadN (pc' := 11) C X102 d11_10 rfl rfl rfl ?_
  refine Go.iloadN (pc' := 12) C X102 d11_11 rfl rfl ?_
  refine Go.newP (aty := .byte) (cap := 16) (vs := (by8 (List.replicate N 0))) (ad := "[B") (pc' := 14) C X102 (by decide) (tw hw 1 rfl) e102 (n32_neg (by omega)) (by rw [n32_nat (by omega)]; exact hN) (by decide) (by decide) (by decide) (by rw [n32_nat (by omega)]; exact by8_rep _) d11_12 rfl ?_
  intro T104 h104 b104 k104 X104 e104 g104 E104 A104 Ea104
  have n_b104 : Z.heap.size ≤ b104 := Nat.le_trans O0.1 (Nat.le_of_eq g104.symm)
  have z_b104 : h0.size ≤ b104 := Nat.le_trans (Nat.le_refl _) (Nat.le_of_eq g104.symm)
  have A104 : AL Z h104 b104 k104 .byte (by8 (List.replicate N 0)) := A104
  have c106 : Fld Z h104 b "java/lang/AbstractStringBuilder" "value" "[B" .null := (Fld.ext E104 F1)
  have c107 : Exa Z h104 b "java/lang/StringBuilder" := (Exa.ext E104 E0)
  refine Go.putF (pc' := 17) (host := "") (ty := (.array .byte)) C X104 (Or.inl (tw hw 59 rfl)) Via.refl e104 c106 c107 (Or.inl (tw hw 60 rfl)) (tw hw 44 rfl) (by decide) rfl rfl d11_14 rfl ?_
  intro T105 h105 X105 e105 W105 F105
  have N105 := Fr.snoc X105 N0 hn
  refine Go.aloadN (pc' := 18) C X105 d11_17 rfl rfl rfl ?_
  refine Go.iconst (z := (0 : Int32)) (pc' := 19) C X105 d11_18 rfl rfl ?_
  have c109 : Fld Z h105 b "java/lang/AbstractStringBuilder" "coder" "B" (.int (0 : Int32)) := (Fld.other W105 (Fld.ext E104 F2) (Or.inr (slot_ne (Or.inl (tw hw 62 rfl)) (Or.inl (tw hw 60 rfl)) (by decide) (t := .byte) (t' := (.array .byte)) (by decide) (by decide))))
  have c110 : Exa Z h105 b "java/lang/StringBuilder" := (Exa.wr W105 c107)
  refine Go.putFN (pc' := 22) (ty := .byte) (v' := .int (0 : Int32)) C X105 (tw hw 61 rfl) Via.refl e105 c109 c110 (Or.inl (tw hw 62 rfl)) (tw hw 44 rfl) (by decide) rfl (by decide) d11_19 rfl ?_
  intro T108 h108 X108 e108 W108 F108
  have N108 := Fr.snoc X108 N105 hn
  refine Go.goto (pc' := 38) C X108 d11_22 (by decide) (by decide) ?_
  have K111 : Keep h0 h108 [b] := ((((Keep.refl h0 [b]).ext E104).wr W105 (Or.inl (by simp))).wr W108 (Or.inl (by simp)))
  have c112 : Fld Z h108 b "java/lang/AbstractStringBuilder" "value" "[B" (.ref b104) := (Fld.other W108 F105 (Or.inr (slot_ne (Or.inl (tw hw 60 rfl)) (Or.inl (tw hw 62 rfl)) (by decide) (t := (.array .byte)) (t' := .byte) (by decide) (by decide))))
  have c113 : Fld Z h108 b "java/lang/AbstractStringBuilder" "count" "I" (.int (0 : Int32)) := (Fld.other W108 (Fld.other W105 (Fld.ext E104 F3) (Or.inr (slot_ne (Or.inl (tw hw 74 rfl)) (Or.inl (tw hw 60 rfl)) (by decide) (t := .int) (t' := (.array .byte)) (by decide) (by decide)))) (Or.inr (slot_ne (Or.inl (tw hw 74 rfl)) (Or.inl (tw hw 62 rfl)) (by decide) (t := .int) (t' := .byte) (by decide) (by decide))))
  have c114 : Exa Z h108 b104 "[B" := (Exa.wr W108 (Exa.wr W105 Ea104))
  have ne115 : b104 ≠ b := (Nat.ne_of_gt (Nat.lt_of_lt_of_le E0.lt (Nat.le_trans (Nat.le_refl _) (Nat.le_of_eq g104.symm))))
  have c116 : AL Z h108 b104 k104 .byte (by8 (List.replicate N 0)) := (AL.other W108 (AL.other W105 A104 ne115) ne115)
  exact Go.retV C X108 rfl d11_38 (by rw [e108]; exact ⟨b104, k104, rfl, N108, K111, z_b104, c112, F108, c113, c114, c116⟩) (by decide) (by decide)
theorem pd_5 : parseMethodDescriptor "(I)V" = some ⟨[.int], none⟩ := by decide +kernel
theorem pf_10 : plainFor mN20 = true := plainFor_of_name (by first | (simp [plainName, overriddenIn]; done) | decide +kernel)
theorem d10_0 : decode jdk_67_method_2_code 0 = .ok (.aload_n 0, 1) := by decide +kernel
theorem d10_1 : decode jdk_67_method_2_code 1 = .ok (.iload_n 1, 1) := by decide +kernel
theorem d10_2 : decode jdk_67_method_2_code 2 = .ok (.invokespecial 1, 3) := by decide +kernel
theorem d10_5 : decode jdk_67_method_2_code 5 = .ok (.return_, 1) := by decide +kernel
def Q_sbI (Z : State) (b : Addr) (N : Nat) (cP : Int32) (h0 : Heap) (rv : Option Value) (h : Heap) (L : List Loc) : Prop := ∃ w : Addr, ∃ kw : ClassId, rv = none ∧ Fr Z.heap.size L ∧ Keep h0 h [b] ∧ h0.size ≤ w ∧ Fld Z h b "java/lang/AbstractStringBuilder" "value" "[B" (.ref w) ∧ Fld Z h b "java/lang/AbstractStringBuilder" "coder" "B" (.int (0 : Int32)) ∧ Fld Z h b "java/lang/AbstractStringBuilder" "count" "I" (.int (0 : Int32)) ∧ Exa Z h w "[B" ∧ AL Z h w kw .byte (by8 (List.replicate N 0))
theorem rm_sbI (l : Launch) (Z : State) (a0 : Array Value) (hw : ∀ d ∈ tables_1, d.before a0 Z = true) (b : Addr) (N : Nat) (cP : Int32) (h0 : Heap) (O0 : Ext Z.heap h0) (E0 : Exa Z h0 b "java/lang/StringBuilder") (F1 : Fld Z h0 b "java/lang/AbstractStringBuilder" "value" "[B" .null) (F2 : Fld Z h0 b "java/lang/AbstractStringBuilder" "coder" "B" (.int (0 : Int32))) (F3 : Fld Z h0 b "java/lang/AbstractStringBuilder" "count" "I" (.int (0 : Int32))) (SC : Sta Z Z.heap "java/lang/String" "COMPACT_STRINGS" "Z" (.int cP)) (hn : Z.heap.size ≤ b) (hP : ¬ cP = (0 : Int32)) (hN : N ≤ 16) :
    Met1 l Z mN20 jdk_67_method_2_code 2 none ({ frames := 2, cells := 1, slots := 16, locals := 25 } : Room) #[(.ref b), (.int N.toInt32)] h0 (Q_sbI Z b N cP h0) := by
  refine Met1.of_body (Ls := #[.val (.ref b), .val (.int N.toInt32)]) pf_10 (fun m => by first | (simp [entryFrame, mkF, argsToLocals, Value.category]; done) | rfl) ?_
  intro p e s m below meth c T0 C X0 e0
  have N0 : Fr Z.heap.size [] := Fr.nil _
  refine Go.aloadN (pc' := 1) C X0 d10_0 rfl rfl rfl ?_
  refine Go.iloadN (pc' := 2) C X0 d10_1 rfl rfl ?_
  refine Go.callI (y := mN7) (a := b) (pc' := 5) C X0 rfl (tw hw 49 rfl) (tw hw 50 rfl) (by decide) (rm_abI l Z a0 hw b N cP h0 O0 E0 F1 F2 F3 SC hn hP hN) (tw hw 54 rfl) (tw hw 53 rfl) e0 (argsL := [(.int N.toInt32)]) (rest := []) (W := 0) rfl rfl pd_5 rfl (Nat.le_of_eq rfl) rfl (by decide) (by decide) (by decide) (by decide) rfl d10_2 rfl ?_
  intro T101 v101 L101 X101 q101
  obtain ⟨w_101, kw_101, rfl, N101q, K101, B101_0, P101_0, P101_1, P101_2, P101_3, P101_4⟩ := q101
  have N101 := Fr.app N0 N101q
  have n_w_101 : Z.heap.size ≤ w_101 := Nat.le_trans O0.1 B101_0
  have z_w_101 : h0.size ≤ w_101 := Nat.le_trans (Nat.le_refl _) B101_0
  have K102 : Keep h0 T101.heap [b] := ((Keep.refl h0 [b]).trans K101 (allS (Or.inl (by simp)) all0))
  exact Go.retV C X101 rfl d10_5 ⟨w_101, kw_101, rfl, N101, K102, z_w_101, P101_0, P101_1, P101_2, P101_3, P101_4⟩ (by decide) (by decide)
theorem pf_14 : plainFor mN12 = true := plainFor_of_name (by first | (simp [plainName, overriddenIn]; done) | decide +kernel)
theorem d14_0 : decode jdk_68_method_6_code 0 = .ok (.aload_n 0, 1) := by decide +kernel
theorem d14_1 : decode jdk_68_method_6_code 1 = .ok (.getfield 79, 3) := by decide +kernel
theorem d14_4 : decode jdk_68_method_6_code 4 = .ok (.ireturn, 1) := by decide +kernel
def Q_abl (Z : State) (b : Addr) (n0 : Int32) (h0 : Heap) (rv : Option Value) (h : Heap) (L : List Loc) : Prop := rv = some (.int n0) ∧ L = [] ∧ h = h0
theorem rm_abl (l : Launch) (Z : State) (a0 : Array Value) (hw : ∀ d ∈ tables_1, d.before a0 Z = true) (b : Addr) (n0 : Int32) (h0 : Heap) (O0 : Ext Z.heap h0) (F3 : Fld Z h0 b "java/lang/AbstractStringBuilder" "count" "I" (.int n0)) :
    Met1 l Z mN12 jdk_68_method_6_code 1 (some .int) ({ frames := 0, cells := 0, slots := 0, locals := 0 } : Room) #[(.ref b)] h0 (Q_abl Z b n0 h0) := by
  refine Met1.of_body (Ls := #[.val (.ref b)]) pf_14 (fun m => by first | (simp [entryFrame, mkF, argsToLocals, Value.category]; done) | rfl) ?_
  intro p e s m below meth c T0 C X0 e0
  have N0 : Fr Z.heap.size [] := Fr.nil _
  refine Go.aloadN (pc' := 1) C X0 d14_0 rfl rfl rfl ?_
  refine Go.getF (pc' := 4) (host := "") C X0 (Or.inl (tw hw 73 rfl)) Via.refl e0 F3 d14_1 rfl ?_
  intro T101 X101 e101
  exact Go.retI C X101 rfl d14_4 (by rw [e101]; exact ⟨rfl, rfl, rfl⟩) (by decide) (by decide)
theorem pd_6 : parseMethodDescriptor "()I" = some ⟨[], some .int⟩ := by decide +kernel
theorem pf_13 : plainFor mN22 = true := plainFor_of_name (by first | (simp [plainName, overriddenIn]; done) | decide +kernel)
theorem d13_0 : decode jdk_67_method_93_code 0 = .ok (.aload_n 0, 1) := by decide +kernel
theorem d13_1 : decode jdk_67_method_93_code 1 = .ok (.invokespecial 343, 3) := by decide +kernel
theorem d13_4 : decode jdk_67_method_93_code 4 = .ok (.ireturn, 1) := by decide +kernel
def Q_sbl (Z : State) (b : Addr) (n0 : Int32) (h0 : Heap) (rv : Option Value) (h : Heap) (L : List Loc) : Prop := rv = some (.int n0) ∧ L = [] ∧ h = h0
theorem rm_sbl (l : Launch) (Z : State) (a0 : Array Value) (hw : ∀ d ∈ tables_1, d.before a0 Z = true) (b : Addr) (n0 : Int32) (h0 : Heap) (O0 : Ext Z.heap h0) (E0 : Exa Z h0 b "java/lang/StringBuilder") (F3 : Fld Z h0 b "java/lang/AbstractStringBuilder" "count" "I" (.int n0)) :
    Met1 l Z mN22 jdk_67_method_93_code 1 (some .int) ({ frames := 1, cells := 0, slots := 0, locals := 12 } : Room) #[(.ref b)] h0 (Q_sbl Z b n0 h0) := by
  refine Met1.of_body (Ls := #[.val (.ref b)]) pf_13 (fun m => by first | (simp [entryFrame, mkF, argsToLocals, Value.category]; done) | rfl) ?_
  intro p e s m below meth c T0 C X0 e0
  have N0 : Fr Z.heap.size [] := Fr.nil _
  refine Go.aloadN (pc' := 1) C X0 d13_0 rfl rfl rfl ?_
  refine Go.callU (y := mN12) (y0 := mN10) (a := b) (pc' := 4) C X0 (tw hw 68 rfl) (tw hw 71 rfl) (tw hw 92 rfl) rfl (tw hw 69 rfl) (tw hw 70 rfl) (by decide) E0 (by decide) (rm_abl l Z a0 hw b n0 h0 O0 F3) (tw hw 72 rfl) (tw hw 53 rfl) e0 (argsL := []) (rest := []) (W := 0) rfl rfl pd_6 rfl (Nat.le_of_eq rfl) rfl (by decide) (by decide) (by decide) (by decide) d13_1 rfl ?_
  intro T101 v101 L101 X101 q101
  obtain ⟨rfl, rfl, e101⟩ := q101
  have N101 := Fr.app N0 (Fr.nil _)
  exact Go.retI C X101 rfl d13_4 (by rw [e101]; exact ⟨rfl, (by simp), rfl⟩) (by decide) (by decide)
theorem pf_19 : plainFor mN11 = true := plainFor_of_name (by first | (simp [plainName, overriddenIn]; done) | decide +kernel)
theorem d19_0 : decode jdk_68_method_68_code 0 = .ok (.getstatic 18, 3) := by decide +kernel
theorem d19_3 : decode jdk_68_method_68_code 3 = .ok (.ifCond .eq 14, 3) := by decide +kernel
theorem d19_6 : decode jdk_68_method_68_code 6 = .ok (.aload_n 0, 1) := by decide +kernel
theorem d19_7 : decode jdk_68_method_68_code 7 = .ok (.getfield 22, 3) := by decide +kernel
theorem d19_10 : decode jdk_68_method_68_code 10 = .ok (.ifCond .ne 7, 3) := by decide +kernel
theorem d19_13 : decode jdk_68_method_68_code 13 = .ok (.iconst 1, 1) := by decide +kernel
theorem d19_14 : decode jdk_68_method_68_code 14 = .ok (.goto 4, 3) := by decide +kernel
theorem d19_18 : decode jdk_68_method_68_code 18 = .ok (.ireturn, 1) := by decide +kernel
def Q_abL (Z : State) (b : Addr) (cP : Int32) (h0 : Heap) (rv : Option Value) (h : Heap) (L : List Loc) : Prop := rv = some (.int (1 : Int32)) ∧ L = [] ∧ h = h0
theorem rm_abL (l : Launch) (Z : State) (a0 : Array Value) (hw : ∀ d ∈ tables_1, d.before a0 Z = true) (b : Addr) (cP : Int32) (h0 : Heap) (O0 : Ext Z.heap h0) (F2 : Fld Z h0 b "java/lang/AbstractStringBuilder" "coder" "B" (.int (0 : Int32))) (SC : Sta Z Z.heap "java/lang/String" "COMPACT_STRINGS" "Z" (.int cP)) (hP : ¬ cP = (0 : Int32)) :
    Met1 l Z mN11 jdk_68_method_68_code 1 (some .boolean) ({ frames := 0, cells := 0, slots := 0, locals := 0 } : Room) #[(.ref b)] h0 (Q_abL Z b cP h0) := by
  refine Met1.of_body (Ls := #[.val (.ref b)]) pf_19 (fun m => by first | (simp [entryFrame, mkF, argsToLocals, Value.category]; done) | rfl) ?_
  intro p e s m below meth c T0 C X0 e0
  have N0 : Fr Z.heap.size [] := Fr.nil _
  refine Go.getS (pc' := 3) (host := "") C X0 (Or.inl (tw hw 58 rfl)) Via.refl e0 (SC.ext O0) d19_0 rfl ?_
  intro T101 X101 e101
  refine Go.ifNo (pc' := 6) C X101 d19_3 ((if0 _ _).trans (feq (x := cP) (y := (0 : Int32)) hP).1) rfl ?_
  refine Go.aloadN (pc' := 7) C X101 d19_6 rfl rfl rfl ?_
  refine Go.getF (pc' := 10) (host := "") C X101 (Or.inl (tw hw 61 rfl)) Via.refl e101 F2 d19_7 rfl ?_
  intro T103 X103 e103
  refine Go.ifNo (pc' := 13) C X103 d19_10 ((if0 _ _).trans (teq (x := (0 : Int32)) (y := (0 : Int32)) (by decide)).2) rfl ?_
  refine Go.iconst (z := (1 : Int32)) (pc' := 14) C X103 d19_13 rfl rfl ?_
  refine Go.goto (pc' := 18) C X103 d19_14 (by decide) (by decide) ?_
  exact Go.retN C X103 rfl d19_18 (by simp) (by rw [e103]; exact ⟨rfl, rfl, rfl⟩) (by decide) (by decide)
theorem pf_18 : plainFor mN10 = true := plainFor_of_name (by first | (simp [plainName, overriddenIn]; done) | decide +kernel)
theorem d18_0 : decode jdk_68_method_64_code 0 = .ok (.aload_n 0, 1) := by decide +kernel
theorem d18_1 : decode jdk_68_method_64_code 1 = .ok (.getfield 15, 3) := by decide +kernel
theorem d18_4 : decode jdk_68_method_64_code 4 = .ok (.areturn, 1) := by decide +kernel
def Q_abv (Z : State) (b : Addr) (w : Addr) (h0 : Heap) (rv : Option Value) (h : Heap) (L : List Loc) : Prop := rv = some (.ref w) ∧ L = [] ∧ h = h0
theorem rm_abv (l : Launch) (Z : State) (a0 : Array Value) (hw : ∀ d ∈ tables_1, d.before a0 Z = true) (b : Addr) (w : Addr) (h0 : Heap) (O0 : Ext Z.heap h0) (F1 : Fld Z h0 b "java/lang/AbstractStringBuilder" "value" "[B" (.ref w)) :
    Met1 l Z mN10 jdk_68_method_64_code 1 (some (.array .byte)) ({ frames := 0, cells := 0, slots := 0, locals := 0 } : Room) #[(.ref b)] h0 (Q_abv Z b w h0) := by
  refine Met1.of_body (Ls := #[.val (.ref b)]) pf_18 (fun m => by first | (simp [entryFrame, mkF, argsToLocals, Value.category]; done) | rfl) ?_
  intro p e s m below meth c T0 C X0 e0
  have N0 : Fr Z.heap.size [] := Fr.nil _
  refine Go.aloadN (pc' := 1) C X0 d18_0 rfl rfl rfl ?_
  refine Go.getF (pc' := 4) (host := "") C X0 (Or.inl (tw hw 59 rfl)) Via.refl e0 F1 d18_1 rfl ?_
  intro T101 X101 e101
  exact Go.retA C X101 rfl d18_4 rfl rfl rfl (by rw [e101]; exact ⟨rfl, rfl, rfl⟩) (by decide) (by decide)
theorem pf_30 : plainFor mN9 = true := plainFor_of_name (by first | (simp [plainName, overriddenIn]; done) | decide +kernel)
theorem d30_0 : decode jdk_68_method_9_code 0 = .ok (.aload_n 0, 1) := by decide +kernel
theorem d30_1 : decode jdk_68_method_9_code 1 = .ok (.getfield 15, 3) := by decide +kernel
theorem d30_4 : decode jdk_68_method_9_code 4 = .ok (.arraylength, 1) := by decide +kernel
theorem d30_5 : decode jdk_68_method_9_code 5 = .ok (.aload_n 0, 1) := by decide +kernel
theorem d30_6 : decode jdk_68_method_9_code 6 = .ok (.getfield 22, 3) := by decide +kernel
theorem d30_9 : decode jdk_68_method_9_code 9 = .ok (.ishr, 1) := by decide +kernel
theorem d30_10 : decode jdk_68_method_9_code 10 = .ok (.istore_n 2, 1) := by decide +kernel
theorem d30_11 : decode jdk_68_method_9_code 11 = .ok (.iload_n 1, 1) := by decide +kernel
theorem d30_12 : decode jdk_68_method_9_code 12 = .ok (.iload_n 2, 1) := by decide +kernel
theorem d30_13 : decode jdk_68_method_9_code 13 = .ok (.isub, 1) := by decide +kernel
theorem d30_14 : decode jdk_68_method_9_code 14 = .ok (.ifCond .le 24, 3) := by decide +kernel
theorem d30_38 : decode jdk_68_method_9_code 38 = .ok (.return_, 1) := by decide +kernel
def Q_ens (Z : State) (b : Addr) (w : Addr) (kw : ClassId) (ys : List Int32) (k : Nat) (h0 : Heap) (rv : Option Value) (h : Heap) (L : List Loc) : Prop := rv = none ∧ L = [] ∧ h = h0
theorem rm_ens (l : Launch) (Z : State) (a0 : Array Value) (hw : ∀ d ∈ tables_1, d.before a0 Z = true) (b : Addr) (w : Addr) (kw : ClassId) (ys : List Int32) (k : Nat) (h0 : Heap) (O0 : Ext Z.heap h0) (F1 : Fld Z h0 b "java/lang/AbstractStringBuilder" "value" "[B" (.ref w)) (F2 : Fld Z h0 b "java/lang/AbstractStringBuilder" "coder" "B" (.int (0 : Int32))) (Aw : AL Z h0 w kw .byte (by8 ys)) (hk : k < ys.length) (hy : ys.length ≤ 16) :
    Met1 l Z mN9 jdk_68_method_9_code 3 none ({ frames := 0, cells := 0, slots := 0, locals := 0 } : Room) #[(.ref b), (.int (k + 1).toInt32)] h0 (Q_ens Z b w kw ys k h0) := by
  refine Met1.of_body (Ls := #[.val (.ref b), .val (.int (k + 1).toInt32), .unset]) pf_30 (fun m => by first | (simp [entryFrame, mkF, argsToLocals, Value.category]; done) | rfl) ?_
  intro p e s m below meth c T0 C X0 e0
  have N0 : Fr Z.heap.size [] := Fr.nil _
  refine Go.aloadN (pc' := 1) C X0 d30_0 rfl rfl rfl ?_
  refine Go.getF (pc' := 4) (host := "") C X0 (Or.inl (tw hw 59 rfl)) Via.refl e0 F1 d30_1 rfl ?_
  intro T101 X101 e101
  refine Go.alen (z := ys.length.toInt32) (pc' := 5) C X101 e101 Aw (by rw [by8_len]) d30_4 rfl ?_
  refine Go.aloadN (pc' := 6) C X101 d30_5 rfl rfl rfl ?_
  refine Go.getF (pc' := 9) (host := "") C X101 (Or.inl (tw hw 61 rfl)) Via.refl e101 F2 d30_6 rfl ?_
  intro T102 X102 e102
  refine Go.ishr (pc' := 10) C X102 d30_9 rfl ?_
  refine Go.istoreN (Ls' := #[.val (.ref b), .val (.int (k + 1).toInt32), .val (.int (ys.length.toInt32 >>> ((0 : Int32) &&& 31)))]) (pc' := 11) C X102 d30_10 rfl rfl ?_
  refine Go.iloadN (pc' := 12) C X102 d30_11 rfl rfl ?_
  refine Go.iloadN (pc' := 13) C X102 d30_12 rfl rfl ?_
  refine Go.isub (pc' := 14) C X102 d30_13 rfl ?_
  refine Go.ifYes (pc' := 38) C X102 d30_14 ((if0 _ _).trans (flt (x := (0 : Int32)) (y := ((k + 1).toInt32 - (ys.length.toInt32 >>> ((0 : Int32) &&& 31)))) (capok hk hy)).2.2.2) (by decide) (by decide) ?_
  exact Go.retV C X102 rfl d30_38 (by rw [e102]; exact ⟨rfl, rfl, rfl⟩) (by decide) (by decide)
theorem pf_31 : plainFor mN24 = true := plainFor_of_name (by first | (simp [plainName, overriddenIn]; done) | decide +kernel)
theorem d31_0 : decode jdk_43_method_3_code 0 = .ok (.iload_n 0, 1) := by decide +kernel
theorem d31_1 : decode jdk_43_method_3_code 1 = .ok (.sipush 255, 3) := by decide +kernel
theorem d31_4 : decode jdk_43_method_3_code 4 = .ok (.if_icmp .gt 7, 3) := by decide +kernel
theorem d31_7 : decode jdk_43_method_3_code 7 = .ok (.iconst 1, 1) := by decide +kernel
theorem d31_8 : decode jdk_43_method_3_code 8 = .ok (.goto 4, 3) := by decide +kernel
theorem d31_12 : decode jdk_43_method_3_code 12 = .ok (.ireturn, 1) := by decide +kernel
def Q_ce (Z : State) (x : Int32) (h0 : Heap) (rv : Option Value) (h : Heap) (L : List Loc) : Prop := rv = some (.int (1 : Int32)) ∧ L = [] ∧ h = h0
theorem rm_ce (l : Launch) (Z : State) (a0 : Array Value) (hw : ∀ d ∈ tables_1, d.before a0 Z = true) (x : Int32) (h0 : Heap) (O0 : Ext Z.heap h0) (hr : 0 ≤ x.toInt ∧ x.toInt ≤ 255) :
    Met1 l Z mN24 jdk_43_method_3_code 1 (some .boolean) ({ frames := 0, cells := 0, slots := 0, locals := 0 } : Room) #[(.int x)] h0 (Q_ce Z x h0) := by
  refine Met1.of_body (Ls := #[.val (.int x)]) pf_31 (fun m => by first | (simp [entryFrame, mkF, argsToLocals, Value.category]; done) | rfl) ?_
  intro p e s m below meth c T0 C X0 e0
  have N0 : Fr Z.heap.size [] := Fr.nil _
  refine Go.iloadN (pc' := 1) C X0 d31_0 rfl rfl ?_
  refine Go.sipush (z := (255 : Int32)) (pc' := 4) C X0 d31_1 rfl rfl ?_
  refine Go.icmpNo (pc' := 7) C X0 d31_4 (flt (x := (255 : Int32)) (y := x) (lt255r hr)).2.2.1 rfl ?_
  refine Go.iconst (z := (1 : Int32)) (pc' := 8) C X0 d31_7 rfl rfl ?_
  refine Go.goto (pc' := 12) C X0 d31_8 (by decide) (by decide) ?_
  exact Go.retN C X0 rfl d31_12 (by simp) (by rw [e0]; exact ⟨rfl, rfl, rfl⟩) (by decide) (by decide)
theorem pd_7 : parseMethodDescriptor "()Z" = some ⟨[], some .boolean⟩ := by decide +kernel
theorem pd_8 : parseMethodDescriptor "(C)Z" = some ⟨[.char], some .boolean⟩ := by decide +kernel
theorem pf_29 : plainFor mN8 = true := plainFor_of_name (by first | (simp [plainName, overriddenIn]; done) | decide +kernel)
theorem d29_0 : decode jdk_68_method_31_code 0 = .ok (.aload_n 0, 1) := by decide +kernel
theorem d29_1 : decode jdk_68_method_31_code 1 = .ok (.aload_n 0, 1) := by decide +kernel
theorem d29_2 : decode jdk_68_method_31_code 2 = .ok (.getfield 79, 3) := by decide +kernel
theorem d29_5 : decode jdk_68_method_31_code 5 = .ok (.iconst 1, 1) := by decide +kernel
theorem d29_6 : decode jdk_68_method_31_code 6 = .ok (.iadd, 1) := by decide +kernel
theorem d29_7 : decode jdk_68_method_31_code 7 = .ok (.invokevirtual 100, 3) := by decide +kernel
theorem d29_10 : decode jdk_68_method_31_code 10 = .ok (.aload_n 0, 1) := by decide +kernel
theorem d29_11 : decode jdk_68_method_31_code 11 = .ok (.invokevirtual 83, 3) := by decide +kernel
theorem d29_14 : decode jdk_68_method_31_code 14 = .ok (.ifCond .eq 31, 3) := by decide +kernel
theorem d29_17 : decode jdk_68_method_31_code 17 = .ok (.iload_n 1, 1) := by decide +kernel
theorem d29_18 : decode jdk_68_method_31_code 18 = .ok (.invokestatic 191, 3) := by decide +kernel
theorem d29_21 : decode jdk_68_method_31_code 21 = .ok (.ifCond .eq 24, 3) := by decide +kernel
theorem d29_24 : decode jdk_68_method_31_code 24 = .ok (.aload_n 0, 1) := by decide +kernel
theorem d29_25 : decode jdk_68_method_31_code 25 = .ok (.getfield 15, 3) := by decide +kernel
theorem d29_28 : decode jdk_68_method_31_code 28 = .ok (.aload_n 0, 1) := by decide +kernel
theorem d29_29 : decode jdk_68_method_31_code 29 = .ok (.dup, 1) := by decide +kernel
theorem d29_30 : decode jdk_68_method_31_code 30 = .ok (.getfield 79, 3) := by decide +kernel
theorem d29_33 : decode jdk_68_method_31_code 33 = .ok (.dup_x1, 1) := by decide +kernel
theorem d29_34 : decode jdk_68_method_31_code 34 = .ok (.iconst 1, 1) := by decide +kernel
theorem d29_35 : decode jdk_68_method_31_code 35 = .ok (.iadd, 1) := by decide +kernel
theorem d29_36 : decode jdk_68_method_31_code 36 = .ok (.putfield 79, 3) := by decide +kernel
theorem d29_39 : decode jdk_68_method_31_code 39 = .ok (.iload_n 1, 1) := by decide +kernel
theorem d29_40 : decode jdk_68_method_31_code 40 = .ok (.i2b, 1) := by decide +kernel
theorem d29_41 : decode jdk_68_method_31_code 41 = .ok (.bastore, 1) := by decide +kernel
theorem d29_42 : decode jdk_68_method_31_code 42 = .ok (.goto 33, 3) := by decide +kernel
theorem d29_75 : decode jdk_68_method_31_code 75 = .ok (.aload_n 0, 1) := by decide +kernel
theorem d29_76 : decode jdk_68_method_31_code 76 = .ok (.areturn, 1) := by decide +kernel
def Q_aap (Z : State) (b : Addr) (w : Addr) (kw : ClassId) (ys : List Int32) (k : Nat) (x : Int32) (cP : Int32) (h0 : Heap) (rv : Option Value) (h : Heap) (L : List Loc) : Prop := rv = some (.ref b) ∧ Fr Z.heap.size L ∧ Keep h0 h [b, w] ∧ Fld Z h b "java/lang/AbstractStringBuilder" "value" "[B" (.ref w) ∧ Fld Z h b "java/lang/AbstractStringBuilder" "coder" "B" (.int (0 : Int32)) ∧ Fld Z h b "java/lang/AbstractStringBuilder" "count" "I" (.int (k + 1).toInt32) ∧ AL Z h w kw .byte (by8 (ys.set k x))
theorem rm_aap (l : Launch) (Z : State) (a0 : Array Value) (hw : ∀ d ∈ tables_1, d.before a0 Z = true) (b : Addr) (w : Addr) (kw : ClassId) (ys : List Int32) (k : Nat) (x : Int32) (cP : Int32) (h0 : Heap) (O0 : Ext Z.heap h0) (E0 : Exa Z h0 b "java/lang/StringBuilder") (F1 : Fld Z h0 b "java/lang/AbstractStringBuilder" "value" "[B" (.ref w)) (F2 : Fld Z h0 b "java/lang/AbstractStringBuilder" "coder" "B" (.int (0 : Int32))) (F3 : Fld Z h0 b "java/lang/AbstractStringBuilder" "count" "I" (.int k.toInt32)) (Aw : AL Z h0 w kw .byte (by8 ys)) (SC : Sta Z Z.heap "java/lang/String" "COMPACT_STRINGS" "Z" (.int cP)) (hk : k < ys.length) (hy : ys.length ≤ 16) (hr : 0 ≤ x.toInt ∧ x.toInt ≤ 255) (hP : ¬ cP = (0 : Int32)) (hn : Z.heap.size ≤ b) (hnw : Z.heap.size ≤ w) (hbw : b ≠ w) :
    Met1 l Z mN8 jdk_68_method_31_code 2 (some (.object "java/lang/AbstractStringBuilder")) ({ frames := 1, cells := 0, slots := 0, locals := 14 } : Room) #[(.ref b), (.int x)] h0 (Q_aap Z b w kw ys k x cP h0) := by
  refine Met1.of_body (Ls := #[.val (.ref b), .val (.int x)]) pf_29 (fun m => by first | (simp [entryFrame, mkF, argsToLocals, Value.category]; done) | rfl) ?_
  intro p e s m below meth c T0 C X0 e0
  have N0 : Fr Z.heap.size [] := Fr.nil _
  refine Go.aloadN (pc' := 1) C X0 d29_0 rfl rfl rfl ?_
  refine Go.aloadN (pc' := 2) C X0 d29_1 rfl rfl rfl ?_
  refine Go.getF (pc' := 5) (host := "") C X0 (Or.inl (tw hw 73 rfl)) Via.refl e0 F3 d29_2 rfl ?_
  intro T101 X101 e101
  refine Go.iconst (z := (1 : Int32)) (pc' := 6) C X101 d29_5 rfl rfl ?_
  refine Go.iadd (pc' := 7) C X101 d29_6 rfl ?_
  rw [n32_succ]
  refine Go.callV (y := mN9) (z := mN9) (a := b) (pc' := 10) C X101 (tw hw 155 rfl) (decl_of (tw hw 156 rfl) (tw hw 159 rfl)) (notFace_at C.2.1 (tw hw 158 rfl)) (tw hw 158 rfl) (tw hw 156 rfl) E0 (by decide) (rm_ens l Z a0 hw b w kw ys k h0 O0 F1 F2 Aw hk hy) (tw hw 159 rfl) (tw hw 53 rfl) e101 (argsL := [(.int (k + 1).toInt32)]) (rest := []) (W := 0) rfl rfl pd_5 rfl (Nat.le_of_eq rfl) rfl (by decide) (by decide) (by decide) (by decide) d29_7 rfl ?_
  intro T102 v102 L102 X102 q102
  obtain ⟨rfl, rfl, e102⟩ := q102
  have N102 := Fr.app N0 (Fr.nil _)
  refine Go.aloadN (pc' := 11) C X102 d29_10 rfl rfl rfl ?_
  refine Go.callV (y := mN11) (z := mN11) (a := b) (pc' := 14) C X102 (tw hw 160 rfl) (tw hw 97 rfl) (notFace_at C.2.1 (tw hw 99 rfl)) (tw hw 99 rfl) (tw hw 98 rfl) E0 (by decide) (rm_abL l Z a0 hw b cP h0 O0 F2 SC hP) (tw hw 100 rfl) (tw hw 53 rfl) e102 (argsL := []) (rest := []) (W := 0) rfl rfl pd_7 rfl (Nat.le_of_eq rfl) rfl (by decide) (by decide) (by decide) (by decide) d29_11 rfl ?_
  intro T103 v103 L103 X103 q103
  obtain ⟨rfl, rfl, e103⟩ := q103
  have N103 := Fr.app N102 (Fr.nil _)
  refine Go.ifNo (pc' := 17) C X103 d29_14 ((if0 _ _).trans (feq (x := (1 : Int32)) (y := (0 : Int32)) (by decide)).1) rfl ?_
  refine Go.iloadN (pc' := 18) C X103 d29_17 rfl rfl ?_
  refine Go.callS (y := mN24) (pc' := 21) C X103 (tw hw 161 rfl) (tw hw 162 rfl) (by decide) (rm_ce l Z a0 hw x h0 O0 hr) (tw hw 163 rfl) (tw hw 125 rfl) e103 (argsL := [(.int x)]) (rest := []) (W := 0) rfl rfl pd_8 rfl (Nat.le_of_eq rfl) rfl (by decide) (by decide) (by decide) (by decide) d29_18 rfl ?_
  intro T105 v105 L105 X105 q105
  obtain ⟨rfl, rfl, e105⟩ := q105
  have N105 := Fr.app N103 (Fr.nil _)
  refine Go.ifNo (pc' := 24) C X105 d29_21 ((if0 _ _).trans (feq (x := (1 : Int32)) (y := (0 : Int32)) (by decide)).1) rfl ?_
  refine Go.aloadN (pc' := 25) C X105 d29_24 rfl rfl rfl ?_
  refine Go.getF (pc' := 28) (host := "") C X105 (Or.inl (tw hw 59 rfl)) Via.refl e105 F1 d29_25 rfl ?_
  intro T107 X107 e107
  refine Go.aloadN (pc' := 29) C X107 d29_28 rfl rfl rfl ?_
  refine Go.dup (pc' := 30) C X107 d29_29 rfl rfl ?_
  refine Go.getF (pc' := 33) (host := "") C X107 (Or.inl (tw hw 73 rfl)) Via.refl e107 F3 d29_30 rfl ?_
  intro T108 X108 e108
  refine Go.dupX1 (pc' := 34) C X108 d29_33 rfl rfl rfl ?_
  refine Go.iconst (z := (1 : Int32)) (pc' := 35) C X108 d29_34 rfl rfl ?_
  refine Go.iadd (pc' := 36) C X108 d29_35 rfl ?_
  rw [n32_succ]
  refine Go.putF (pc' := 39) (host := "") (ty := .int) C X108 (Or.inl (tw hw 73 rfl)) Via.refl e108 F3 E0 (Or.inl (tw hw 74 rfl)) (tw hw 44 rfl) (by decide) rfl rfl d29_36 rfl ?_
  intro T109 h109 X109 e109 W109 F109
  have N109 := Fr.snoc X109 N105 hn
  refine Go.iloadN (pc' := 40) C X109 d29_39 rfl rfl ?_
  refine Go.i2b (pc' := 41) C X109 d29_40 rfl ?_
  have c110 : AL Z h109 w kw .byte (by8 ys) := (AL.other W109 Aw (Ne.symm hbw))
  refine Go.stB (i := k) (x' := (x.toInt8.toInt32)) (vs' := (by8 (ys.set k x))) (pc' := 42) C X109 e109 c110 (n32_neg (by omega)) (n32_nat (by omega)) (by rw [by8_len]; exact hk) (nar_byte8 _) (by8_set _ _ _) d29_41 rfl ?_
  intro T111 h111 X111 e111 W111 A111
  have N111 := Fr.snoc X111 N109 hnw
  refine Go.goto (pc' := 75) C X111 d29_42 (by decide) (by decide) ?_
  refine Go.aloadN (pc' := 76) C X111 d29_75 rfl rfl rfl ?_
  have K112 : Keep h0 h111 [b, w] := (((Keep.refl h0 [b, w]).wr W109 (Or.inl (by simp))).wr W111 (Or.inl (by simp)))
  have c113 : Fld Z h111 b "java/lang/AbstractStringBuilder" "value" "[B" (.ref w) := (Fld.other W111 (Fld.other W109 F1 (Or.inr (slot_ne (Or.inl (tw hw 60 rfl)) (Or.inl (tw hw 74 rfl)) (by decide) (t := (.array .byte)) (t' := .int) (by decide) (by decide)))) (Or.inl hbw))
  have c114 : Fld Z h111 b "java/lang/AbstractStringBuilder" "coder" "B" (.int (0 : Int32)) := (Fld.other W111 (Fld.other W109 F2 (Or.inr (slot_ne (Or.inl (tw hw 62 rfl)) (Or.inl (tw hw 74 rfl)) (by decide) (t := .byte) (t' := .int) (by decide) (by decide)))) (Or.inl hbw))
  have c115 : Fld Z h111 b "java/lang/AbstractStringBuilder" "count" "I" (.int (k + 1).toInt32) := (Fld.other W111 F109 (Or.inl hbw))
  exact Go.retA C X111 rfl d29_76 rfl rfl rfl (by rw [e111]; exact ⟨rfl, N111, K112, c113, c114, c115, A111⟩) (by decide) (by decide)
theorem pd_9 : parseMethodDescriptor "(C)Ljava/lang/AbstractStringBuilder;" = some ⟨[.char], some (.object "java/lang/AbstractStringBuilder")⟩ := by decide +kernel
theorem pf_28 : plainFor mN21 = true := plainFor_of_name (by first | (simp [plainName, overriddenIn]; done) | decide +kernel)
theorem d28_0 : decode jdk_67_method_14_code 0 = .ok (.aload_n 0, 1) := by decide +kernel
theorem d28_1 : decode jdk_67_method_14_code 1 = .ok (.iload_n 1, 1) := by decide +kernel
theorem d28_2 : decode jdk_67_method_14_code 2 = .ok (.invokespecial 50, 3) := by decide +kernel
theorem d28_5 : decode jdk_67_method_14_code 5 = .ok (.pop, 1) := by decide +kernel
theorem d28_6 : decode jdk_67_method_14_code 6 = .ok (.aload_n 0, 1) := by decide +kernel
theorem d28_7 : decode jdk_67_method_14_code 7 = .ok (.areturn, 1) := by decide +kernel
def Q_sap (Z : State) (b : Addr) (w : Addr) (kw : ClassId) (ys : List Int32) (k : Nat) (x : Int32) (cP : Int32) (h0 : Heap) (rv : Option Value) (h : Heap) (L : List Loc) : Prop := rv = some (.ref b) ∧ Fr Z.heap.size L ∧ Keep h0 h [b, w] ∧ Fld Z h b "java/lang/AbstractStringBuilder" "value" "[B" (.ref w) ∧ Fld Z h b "java/lang/AbstractStringBuilder" "coder" "B" (.int (0 : Int32)) ∧ Fld Z h b "java/lang/AbstractStringBuilder" "count" "I" (.int (k + 1).toInt32) ∧ AL Z h w kw .byte (by8 (ys.set k x))
theorem rm_sap (l : Launch) (Z : State) (a0 : Array Value) (hw : ∀ d ∈ tables_1, d.before a0 Z = true) (b : Addr) (w : Addr) (kw : ClassId) (ys : List Int32) (k : Nat) (x : Int32) (cP : Int32) (h0 : Heap) (O0 : Ext Z.heap h0) (E0 : Exa Z h0 b "java/lang/StringBuilder") (F1 : Fld Z h0 b "java/lang/AbstractStringBuilder" "value" "[B" (.ref w)) (F2 : Fld Z h0 b "java/lang/AbstractStringBuilder" "coder" "B" (.int (0 : Int32))) (F3 : Fld Z h0 b "java/lang/AbstractStringBuilder" "count" "I" (.int k.toInt32)) (Aw : AL Z h0 w kw .byte (by8 ys)) (SC : Sta Z Z.heap "java/lang/String" "COMPACT_STRINGS" "Z" (.int cP)) (hk : k < ys.length) (hy : ys.length ≤ 16) (hr : 0 ≤ x.toInt ∧ x.toInt ≤ 255) (hP : ¬ cP = (0 : Int32)) (hn : Z.heap.size ≤ b) (hnw : Z.heap.size ≤ w) (hbw : b ≠ w) :
    Met1 l Z mN21 jdk_67_method_14_code 2 (some (.object "java/lang/StringBuilder")) ({ frames := 2, cells := 0, slots := 0, locals := 27 } : Room) #[(.ref b), (.int x)] h0 (Q_sap Z b w kw ys k x cP h0) := by
  refine Met1.of_body (Ls := #[.val (.ref b), .val (.int x)]) pf_28 (fun m => by first | (simp [entryFrame, mkF, argsToLocals, Value.category]; done) | rfl) ?_
  intro p e s m below meth c T0 C X0 e0
  have N0 : Fr Z.heap.size [] := Fr.nil _
  refine Go.aloadN (pc' := 1) C X0 d28_0 rfl rfl rfl ?_
  refine Go.iloadN (pc' := 2) C X0 d28_1 rfl rfl ?_
  refine Go.callU (y := mN8) (y0 := mN10) (a := b) (pc' := 5) C X0 (tw hw 151 rfl) (tw hw 153 rfl) (tw hw 92 rfl) rfl (tw hw 152 rfl) (tw hw 70 rfl) (by decide) E0 (by decide) (rm_aap l Z a0 hw b w kw ys k x cP h0 O0 E0 F1 F2 F3 Aw SC hk hy hr hP hn hnw hbw) (tw hw 154 rfl) (tw hw 53 rfl) e0 (argsL := [(.int x)]) (rest := []) (W := 0) rfl rfl pd_9 rfl (Nat.le_of_eq rfl) rfl (by decide) (by decide) (by decide) (by decide) d28_2 rfl ?_
  intro T101 v101 L101 X101 q101
  obtain ⟨rfl, N101q, K101, P101_0, P101_1, P101_2, P101_3⟩ := q101
  have N101 := Fr.app N0 N101q
  refine Go.pop (pc' := 6) C X101 d28_5 rfl rfl ?_
  refine Go.aloadN (pc' := 7) C X101 d28_6 rfl rfl rfl ?_
  have K102 : Keep h0 T101.heap [b, w] := ((Keep.refl h0 [b, w]).trans K101 (allS (Or.inl (by simp)) (allS (Or.inl (by simp)) all0)))
  exact Go.retA C X101 rfl d28_7 rfl rfl rfl ⟨rfl, N101, K102, P101_0, P101_1, P101_2, P101_3⟩ (by decide) (by decide)
theorem pf_20 : plainFor mN29 = true := plainFor_of_name (by first | (simp [plainName, overriddenIn]; done) | decide +kernel)
theorem d20_0 : decode jdk_65_method_132_code 0 = .ok (.iload_n 1, 1) := by decide +kernel
theorem d20_1 : decode jdk_65_method_132_code 1 = .ok (.ifCond .ne 9, 3) := by decide +kernel
theorem d20_4 : decode jdk_65_method_132_code 4 = .ok (.iload_n 2, 1) := by decide +kernel
theorem d20_5 : decode jdk_65_method_132_code 5 = .ok (.aload_n 0, 1) := by decide +kernel
theorem d20_6 : decode jdk_65_method_132_code 6 = .ok (.arraylength, 1) := by decide +kernel
theorem d20_7 : decode jdk_65_method_132_code 7 = .ok (.if_icmp .eq 10, 3) := by decide +kernel
theorem d20_17 : decode jdk_65_method_132_code 17 = .ok (.aload_n 0, 1) := by decide +kernel
theorem d20_18 : decode jdk_65_method_132_code 18 = .ok (.invokevirtual 310, 3) := by decide +kernel
theorem d20_21 : decode jdk_65_method_132_code 21 = .ok (.checkcast 311, 3) := by decide +kernel
theorem d20_24 : decode jdk_65_method_132_code 24 = .ok (.areturn, 1) := by decide +kernel
def Q_cor (Z : State) (w : Addr) (kw : ClassId) (ys : List Int32) (h0 : Heap) (rv : Option Value) (h : Heap) (L : List Loc) : Prop := ∃ v : Addr, ∃ kv : ClassId, rv = some (.ref v) ∧ Fr Z.heap.size L ∧ Keep h0 h [] ∧ h0.size ≤ v ∧ AL Z h v kv .byte (by8 ys)
theorem rm_cor (l : Launch) (Z : State) (a0 : Array Value) (hw : ∀ d ∈ tables_1, d.before a0 Z = true) (w : Addr) (kw : ClassId) (ys : List Int32) (h0 : Heap) (O0 : Ext Z.heap h0) (Ew : Exa Z h0 w "[B") (Aw : AL Z h0 w kw .byte (by8 ys)) (hy : ys.length ≤ 16) :
    Met1 l Z mN29 jdk_65_method_132_code 3 (some (.array .byte)) ({ frames := 1, cells := 1, slots := 16, locals := 14 } : Room) #[(.ref w), (.int (0 : Int32)), (.int ys.length.toInt32)] h0 (Q_cor Z w kw ys h0) := by
  refine Met1.of_body (Ls := #[.val (.ref w), .val (.int (0 : Int32)), .val (.int ys.length.toInt32)]) pf_20 (fun m => by first | (simp [entryFrame, mkF, argsToLocals, Value.category]; done) | rfl) ?_
  intro p e s m below meth c T0 C X0 e0
  have N0 : Fr Z.heap.size [] := Fr.nil _
  refine Go.iloadN (pc' := 1) C X0 d20_0 rfl rfl ?_
  refine Go.ifNo (pc' := 4) C X0 d20_1 ((if0 _ _).trans (teq (x := (0 : Int32)) (y := (0 : Int32)) (by decide)).2) rfl ?_
  refine Go.iloadN (pc' := 5) C X0 d20_4 rfl rfl ?_
  refine Go.aloadN (pc' := 6) C X0 d20_5 rfl rfl rfl ?_
  refine Go.alen (z := ys.length.toInt32) (pc' := 7) C X0 e0 Aw (by rw [by8_len]) d20_6 rfl ?_
  refine Go.icmpYes (pc' := 17) C X0 d20_7 (teq (x := ys.length.toInt32) (y := ys.length.toInt32) rfl).1 (by decide) (by decide) ?_
  refine Go.aloadN (pc' := 18) C X0 d20_17 rfl rfl rfl ?_
  refine Go.clone (ad := "[B") (W := 0) (cap := 16) (pc' := 21) C X0 (tw hw 106 rfl) (tw hw 107 rfl) (tw hw 111 rfl) (tw hw 109 rfl) (tw hw 110 rfl) (tw hw 112 rfl) e0 Aw Ew (fit8 _) rfl (by decide) (Nat.le_of_eq rfl) (by decide) (by rw [by8_len]; exact hy) (by decide) (by decide) d20_18 rfl ?_
  intro T103 h103 b103 X103 e103 g103 E103 A103 Ea103
  have n_b103 : Z.heap.size ≤ b103 := Nat.le_trans O0.1 (Nat.le_of_eq g103.symm)
  have z_b103 : h0.size ≤ b103 := Nat.le_trans (Nat.le_refl _) (Nat.le_of_eq g103.symm)
  refine Go.castY (pc' := 24) C X103 (tw hw 113 rfl) e103 (Ins.self Ea103) d20_21 rfl ?_
  intro T104 X104 e104
  have K105 : Keep h0 h103 [] := ((Keep.refl h0 []).ext E103)
  exact Go.retA C X104 rfl d20_24 rfl rfl rfl (by rw [e104]; exact ⟨b103, kw, rfl, N0, K105, z_b103, A103⟩) (by decide) (by decide)
theorem pd_10 : parseMethodDescriptor "()[B" = some ⟨[], some (.array .byte)⟩ := by decide +kernel
theorem pd_11 : parseMethodDescriptor "([BII)[B" = some ⟨[(.array .byte), .int, .int], some (.array .byte)⟩ := by decide +kernel
theorem pf_17 : plainFor mN15 = true := plainFor_of_name (by first | (simp [plainName, overriddenIn]; done) | decide +kernel)
theorem d17_0 : decode jdk_42_method_150_code 0 = .ok (.aload_n 0, 1) := by decide +kernel
theorem d17_1 : decode jdk_42_method_150_code 1 = .ok (.invokespecial 1, 3) := by decide +kernel
theorem d17_4 : decode jdk_42_method_150_code 4 = .ok (.aload_n 1, 1) := by decide +kernel
theorem d17_5 : decode jdk_42_method_150_code 5 = .ok (.invokevirtual 552, 3) := by decide +kernel
theorem d17_8 : decode jdk_42_method_150_code 8 = .ok (.astore_n 3, 1) := by decide +kernel
theorem d17_9 : decode jdk_42_method_150_code 9 = .ok (.aload_n 1, 1) := by decide +kernel
theorem d17_10 : decode jdk_42_method_150_code 10 = .ok (.invokevirtual 549, 3) := by decide +kernel
theorem d17_13 : decode jdk_42_method_150_code 13 = .ok (.istore 4, 2) := by decide +kernel
theorem d17_15 : decode jdk_42_method_150_code 15 = .ok (.aload_n 1, 1) := by decide +kernel
theorem d17_16 : decode jdk_42_method_150_code 16 = .ok (.invokevirtual 1047, 3) := by decide +kernel
theorem d17_19 : decode jdk_42_method_150_code 19 = .ok (.ifCond .eq 22, 3) := by decide +kernel
theorem d17_22 : decode jdk_42_method_150_code 22 = .ok (.aload_n 0, 1) := by decide +kernel
theorem d17_23 : decode jdk_42_method_150_code 23 = .ok (.iconst 0, 1) := by decide +kernel
theorem d17_24 : decode jdk_42_method_150_code 24 = .ok (.putfield 15, 3) := by decide +kernel
theorem d17_27 : decode jdk_42_method_150_code 27 = .ok (.aload_n 0, 1) := by decide +kernel
theorem d17_28 : decode jdk_42_method_150_code 28 = .ok (.aload_n 3, 1) := by decide +kernel
theorem d17_29 : decode jdk_42_method_150_code 29 = .ok (.iconst 0, 1) := by decide +kernel
theorem d17_30 : decode jdk_42_method_150_code 30 = .ok (.iload 4, 2) := by decide +kernel
theorem d17_32 : decode jdk_42_method_150_code 32 = .ok (.invokestatic 54, 3) := by decide +kernel
theorem d17_35 : decode jdk_42_method_150_code 35 = .ok (.putfield 9, 3) := by decide +kernel
theorem d17_38 : decode jdk_42_method_150_code 38 = .ok (.goto 59, 3) := by decide +kernel
theorem d17_97 : decode jdk_42_method_150_code 97 = .ok (.return_, 1) := by decide +kernel
def Q_sAV (Z : State) (s1 : Addr) (b : Addr) (w : Addr) (kw : ClassId) (ys : List Int32) (cP : Int32) (h0 : Heap) (rv : Option Value) (h : Heap) (L : List Loc) : Prop := ∃ v : Addr, ∃ kv : ClassId, rv = none ∧ Fr Z.heap.size L ∧ Keep h0 h [s1] ∧ h0.size ≤ v ∧ Fld Z h s1 "java/lang/String" "value" "[B" (.ref v) ∧ Fld Z h s1 "java/lang/String" "coder" "B" (.int (0 : Int32)) ∧ AL Z h v kv .byte (by8 ys)
theorem rm_sAV (l : Launch) (Z : State) (a0 : Array Value) (hw : ∀ d ∈ tables_1, d.before a0 Z = true) (s1 : Addr) (b : Addr) (w : Addr) (kw : ClassId) (ys : List Int32) (cP : Int32) (h0 : Heap) (O0 : Ext Z.heap h0) (E1 : Exa Z h0 s1 "java/lang/String") (G1 : Fld Z h0 s1 "java/lang/String" "value" "[B" .null) (G2 : Fld Z h0 s1 "java/lang/String" "coder" "B" (.int (0 : Int32))) (E0 : Exa Z h0 b "java/lang/StringBuilder") (F1 : Fld Z h0 b "java/lang/AbstractStringBuilder" "value" "[B" (.ref w)) (F2 : Fld Z h0 b "java/lang/AbstractStringBuilder" "coder" "B" (.int (0 : Int32))) (F3 : Fld Z h0 b "java/lang/AbstractStringBuilder" "count" "I" (.int ys.length.toInt32)) (Ew : Exa Z h0 w "[B") (Aw : AL Z h0 w kw .byte (by8 ys)) (SC : Sta Z Z.heap "java/lang/String" "COMPACT_STRINGS" "Z" (.int cP)) (hy : ys.length ≤ 16) (hP : ¬ cP = (0 : Int32)) (hns : Z.heap.size ≤ s1) :
    Met1 l Z mN15 jdk_42_method_150_code 5 none ({ frames := 2, cells := 1, slots := 16, locals := 29 } : Room) #[(.ref s1), (.ref b), .null] h0 (Q_sAV Z s1 b w kw ys cP h0) := by
  refine Met1.of_body (Ls := #[.val (.ref s1), .val (.ref b), .val .null, .unset, .unset]) pf_17 (fun m => by first | (simp [entryFrame, mkF, argsToLocals, Value.category]; done) | rfl) ?_
  intro p e s m below meth c T0 C X0 e0
  have N0 : Fr Z.heap.size [] := Fr.nil _
  refine Go.aloadN (pc' := 1) C X0 d17_0 rfl rfl rfl ?_
  refine Go.initO (pc' := 4) (W := 0) C X0 (tw hw 88 rfl) (tw hw 56 rfl) (tw hw 57 rfl) e0 rfl (by decide) (Nat.le_of_eq rfl) (by decide) d17_1 rfl ?_
  intro T101 X101 e101
  refine Go.aloadN (pc' := 5) C X101 d17_4 rfl rfl rfl ?_
  refine Go.callV (y := mN10) (z := mN10) (a := b) (pc' := 8) C X101 (tw hw 89 rfl) (tw hw 90 rfl) (notFace_at C.2.1 (tw hw 92 rfl)) (tw hw 92 rfl) (tw hw 91 rfl) E0 (by decide) (rm_abv l Z a0 hw b w h0 O0 F1) (tw hw 93 rfl) (tw hw 53 rfl) e101 (argsL := []) (rest := []) (W := 0) rfl rfl pd_10 rfl (Nat.le_of_eq rfl) rfl (by decide) (by decide) (by decide) (by decide) d17_5 rfl ?_
  intro T102 v102 L102 X102 q102
  obtain ⟨rfl, rfl, e102⟩ := q102
  have N102 := Fr.app N0 (Fr.nil _)
  refine Go.astoreN (Ls' := #[.val (.ref s1), .val (.ref b), .val .null, .val (.ref w), .unset]) (pc' := 9) C X102 d17_8 rfl rfl rfl ?_
  refine Go.aloadN (pc' := 10) C X102 d17_9 rfl rfl rfl ?_
  refine Go.callV (y := mN12) (z := mN22) (a := b) (pc' := 13) C X102 (tw hw 94 rfl) (tw hw 71 rfl) (nf_mate (y0 := mN10) C.2.1 (tw hw 92 rfl) rfl) (tw hw 95 rfl) (tw hw 65 rfl) E0 (by decide) (rm_sbl l Z a0 hw b ys.length.toInt32 h0 O0 E0 F3) (tw hw 67 rfl) (tw hw 45 rfl) e102 (argsL := []) (rest := []) (W := 0) rfl rfl pd_6 rfl (Nat.le_of_eq rfl) rfl (by decide) (by decide) (by decide) (by decide) d17_10 rfl ?_
  intro T103 v103 L103 X103 q103
  obtain ⟨rfl, rfl, e103⟩ := q103
  have N103 := Fr.app N102 (Fr.nil _)
  refine Go.istore (Ls' := #[.val (.ref s1), .val (.ref b), .val .null, .val (.ref w), .val (.int ys.length.toInt32)]) (pc' := 15) C X103 d17_13 rfl rfl ?_
  refine Go.aloadN (pc' := 16) C X103 d17_15 rfl rfl rfl ?_
  refine Go.callV (y := mN11) (z := mN11) (a := b) (pc' := 19) C X103 (tw hw 96 rfl) (tw hw 97 rfl) (notFace_at C.2.1 (tw hw 99 rfl)) (tw hw 99 rfl) (tw hw 98 rfl) E0 (by decide) (rm_abL l Z a0 hw b cP h0 O0 F2 SC hP) (tw hw 100 rfl) (tw hw 53 rfl) e103 (argsL := []) (rest := []) (W := 0) rfl rfl pd_7 rfl (Nat.le_of_eq rfl) rfl (by decide) (by decide) (by decide) (by decide) d17_16 rfl ?_
  intro T104 v104 L104 X104 q104
  obtain ⟨rfl, rfl, e104⟩ := q104
  have N104 := Fr.app N103 (Fr.nil _)
  refine Go.ifNo (pc' := 22) C X104 d17_19 ((if0 _ _).trans (feq (x := (1 : Int32)) (y := (0 : Int32)) (by decide)).1) rfl ?_
  refine Go.aloadN (pc' := 23) C X104 d17_22 rfl rfl rfl ?_
  refine Go.iconst (z := (0 : Int32)) (pc' := 24) C X104 d17_23 rfl rfl ?_
  refine Go.putFN (pc' := 27) (ty := .byte) (v' := .int (0 : Int32)) C X104 (tw hw 101 rfl) Via.refl e104 G2 E1 (Or.inr ⟨(tw hw 36 rfl), rfl, rfl⟩) (tw hw 34 rfl) (by decide) rfl (by decide) d17_24 rfl ?_
  intro T106 h106 X106 e106 W106 F106
  have N106 := Fr.snoc X106 N104 hns
  refine Go.aloadN (pc' := 28) C X106 d17_27 rfl rfl rfl ?_
  refine Go.aloadN (pc' := 29) C X106 d17_28 rfl rfl rfl ?_
  refine Go.iconst (z := (0 : Int32)) (pc' := 30) C X106 d17_29 rfl rfl ?_
  refine Go.iload (pc' := 32) C X106 d17_30 rfl rfl ?_
  have c108 : Exa Z h106 w "[B" := (Exa.wr W106 Ew)
  have c109 : Exa Z h106 s1 "java/lang/String" := (Exa.wr W106 E1)
  have ne110 : w ≠ s1 := ne_exa c108 c109 (by decide)
  have c111 : AL Z h106 w kw .byte (by8 ys) := (AL.other W106 Aw ne110)
  have O112 : Ext Z.heap h106 := (Ext.wr O0 W106 hns)
  refine Go.callS (y := mN29) (pc' := 35) C X106 (tw hw 102 rfl) (tw hw 103 rfl) (by decide) (rm_cor l Z a0 hw w kw ys h106 O112 c108 c111 hy) (tw hw 105 rfl) (tw hw 104 rfl) e106 (argsL := [(.ref w), (.int (0 : Int32)), (.int ys.length.toInt32)]) (rest := [(.ref s1)]) (W := 1) rfl rfl pd_11 rfl (Nat.le_of_eq rfl) rfl (by decide) (by decide) (by decide) (by decide) d17_32 rfl ?_
  intro T107 v107 L107 X107 q107
  obtain ⟨v_107, kv_107, rfl, N107q, K107, B107_0, P107_0⟩ := q107
  have N107 := Fr.app N106 N107q
  have n_v_107 : Z.heap.size ≤ v_107 := Nat.le_trans O112.1 B107_0
  have z_v_107 : h0.size ≤ v_107 := Nat.le_trans (Nat.le_trans (Nat.le_refl _) (Nat.le_of_eq W106.size.symm)) B107_0
  have c114 : Fld Z T107.heap s1 "java/lang/String" "value" "[B" .null := (Fld.keep (Fld.other W106 G1 (Or.inr (slot_ne (Or.inr (tw hw 35 rfl)) (Or.inr (tw hw 36 rfl)) (by decide) (t := (.array .byte)) (t' := .byte) (by decide) (by decide)))) K107 nin0)
  have c115 : Exa Z T107.heap s1 "java/lang/String" := (Exa.keep c109 K107)
  refine Go.putF (pc' := 38) (host := "") (ty := (.array .byte)) C X107 (Or.inl (tw hw 115 rfl)) Via.refl rfl c114 c115 (Or.inr ⟨(tw hw 35 rfl), rfl, rfl⟩) (tw hw 34 rfl) (by decide) rfl rfl d17_35 rfl ?_
  intro T113 h113 X113 e113 W113 F113
  have N113 := Fr.snoc X113 N107 hns
  refine Go.goto (pc' := 97) C X113 d17_38 (by decide) (by decide) ?_
  have K116 : Keep h0 h113 [s1] := ((((Keep.refl h0 [s1]).wr W106 (Or.inl (by simp))).trans K107 all0).wr W113 (Or.inl (by simp)))
  have c117 : Fld Z h113 s1 "java/lang/String" "coder" "B" (.int (0 : Int32)) := (Fld.other W113 (Fld.keep F106 K107 nin0) (Or.inr (slot_ne (Or.inr (tw hw 36 rfl)) (Or.inr (tw hw 35 rfl)) (by decide) (t := .byte) (t' := (.array .byte)) (by decide) (by decide))))
  have ne118 : v_107 ≠ s1 := (Nat.ne_of_gt (Nat.lt_of_lt_of_le E1.lt (Nat.le_trans (Nat.le_trans (Nat.le_refl _) (Nat.le_of_eq W106.size.symm)) B107_0)))
  have c119 : AL Z h113 v_107 kv_107 .byte (by8 ys) := (AL.other W113 P107_0 ne118)
  exact Go.retV C X113 rfl d17_97 (by rw [e113]; exact ⟨v_107, kv_107, rfl, N113, K116, z_v_107, F113, c117, c119⟩) (by decide) (by decide)
theorem pd_12 : parseMethodDescriptor "(Ljava/lang/AbstractStringBuilder;Ljava/lang/Void;)V" = some ⟨[(.object "java/lang/AbstractStringBuilder"), (.object "java/lang/Void")], none⟩ := by decide +kernel
theorem pf_16 : plainFor mN16 = true := plainFor_of_name (by first | (simp [plainName, overriddenIn]; done) | decide +kernel)
theorem d16_0 : decode jdk_42_method_53_code 0 = .ok (.aload_n 0, 1) := by decide +kernel
theorem d16_1 : decode jdk_42_method_53_code 1 = .ok (.aload_n 1, 1) := by decide +kernel
theorem d16_2 : decode jdk_42_method_53_code 2 = .ok (.aconst_null, 1) := by decide +kernel
theorem d16_3 : decode jdk_42_method_53_code 3 = .ok (.invokespecial 489, 3) := by decide +kernel
theorem d16_6 : decode jdk_42_method_53_code 6 = .ok (.return_, 1) := by decide +kernel
def Q_sSB (Z : State) (s1 : Addr) (b : Addr) (w : Addr) (kw : ClassId) (ys : List Int32) (cP : Int32) (h0 : Heap) (rv : Option Value) (h : Heap) (L : List Loc) : Prop := ∃ v : Addr, ∃ kv : ClassId, rv = none ∧ Fr Z.heap.size L ∧ Keep h0 h [s1] ∧ h0.size ≤ v ∧ Fld Z h s1 "java/lang/String" "value" "[B" (.ref v) ∧ Fld Z h s1 "java/lang/String" "coder" "B" (.int (0 : Int32)) ∧ AL Z h v kv .byte (by8 ys)
theorem rm_sSB (l : Launch) (Z : State) (a0 : Array Value) (hw : ∀ d ∈ tables_1, d.before a0 Z = true) (s1 : Addr) (b : Addr) (w : Addr) (kw : ClassId) (ys : List Int32) (cP : Int32) (h0 : Heap) (O0 : Ext Z.heap h0) (E1 : Exa Z h0 s1 "java/lang/String") (G1 : Fld Z h0 s1 "java/lang/String" "value" "[B" .null) (G2 : Fld Z h0 s1 "java/lang/String" "coder" "B" (.int (0 : Int32))) (E0 : Exa Z h0 b "java/lang/StringBuilder") (F1 : Fld Z h0 b "java/lang/AbstractStringBuilder" "value" "[B" (.ref w)) (F2 : Fld Z h0 b "java/lang/AbstractStringBuilder" "coder" "B" (.int (0 : Int32))) (F3 : Fld Z h0 b "java/lang/AbstractStringBuilder" "count" "I" (.int ys.length.toInt32)) (Ew : Exa Z h0 w "[B") (Aw : AL Z h0 w kw .byte (by8 ys)) (SC : Sta Z Z.heap "java/lang/String" "COMPACT_STRINGS" "Z" (.int cP)) (hy : ys.length ≤ 16) (hP : ¬ cP = (0 : Int32)) (hns : Z.heap.size ≤ s1) :
    Met1 l Z mN16 jdk_42_method_53_code 2 none ({ frames := 3, cells := 1, slots := 16, locals := 45 } : Room) #[(.ref s1), (.ref b)] h0 (Q_sSB Z s1 b w kw ys cP h0) := by
  refine Met1.of_body (Ls := #[.val (.ref s1), .val (.ref b)]) pf_16 (fun m => by first | (simp [entryFrame, mkF, argsToLocals, Value.category]; done) | rfl) ?_
  intro p e s m below meth c T0 C X0 e0
  have N0 : Fr Z.heap.size [] := Fr.nil _
  refine Go.aloadN (pc' := 1) C X0 d16_0 rfl rfl rfl ?_
  refine Go.aloadN (pc' := 2) C X0 d16_1 rfl rfl rfl ?_
  refine Go.aconstNull (pc' := 3) C X0 d16_2 rfl ?_
  refine Go.callI (y := mN15) (a := s1) (pc' := 6) C X0 rfl (tw hw 85 rfl) (tw hw 86 rfl) (by decide) (rm_sAV l Z a0 hw s1 b w kw ys cP h0 O0 E1 G1 G2 E0 F1 F2 F3 Ew Aw SC hy hP hns) (tw hw 87 rfl) (tw hw 33 rfl) e0 (argsL := [(.ref b), .null]) (rest := []) (W := 0) rfl rfl pd_12 rfl (Nat.le_of_eq rfl) rfl (by decide) (by decide) (by decide) (by decide) rfl d16_3 rfl ?_
  intro T101 v101 L101 X101 q101
  obtain ⟨v_101, kv_101, rfl, N101q, K101, B101_0, P101_0, P101_1, P101_2⟩ := q101
  have N101 := Fr.app N0 N101q
  have n_v_101 : Z.heap.size ≤ v_101 := Nat.le_trans O0.1 B101_0
  have z_v_101 : h0.size ≤ v_101 := Nat.le_trans (Nat.le_refl _) B101_0
  have K102 : Keep h0 T101.heap [s1] := ((Keep.refl h0 [s1]).trans K101 (allS (Or.inl (by simp)) all0))
  exact Go.retV C X101 rfl d16_6 ⟨v_101, kv_101, rfl, N101, K102, z_v_101, P101_0, P101_1, P101_2⟩ (by decide) (by decide)
theorem pd_13 : parseMethodDescriptor "(Ljava/lang/StringBuilder;)V" = some ⟨[(.object "java/lang/StringBuilder")], none⟩ := by decide +kernel
theorem pf_15 : plainFor mN23 = true := plainFor_of_name (by first | (simp [plainName, overriddenIn]; done) | decide +kernel)
theorem d15_0 : decode jdk_67_method_42_code 0 = .ok (.new 18, 3) := by decide +kernel
theorem d15_3 : decode jdk_67_method_42_code 3 = .ok (.dup, 1) := by decide +kernel
theorem d15_4 : decode jdk_67_method_42_code 4 = .ok (.aload_n 0, 1) := by decide +kernel
theorem d15_5 : decode jdk_67_method_42_code 5 = .ok (.invokespecial 137, 3) := by decide +kernel
theorem d15_8 : decode jdk_67_method_42_code 8 = .ok (.areturn, 1) := by decide +kernel
def Q_tos (Z : State) (b : Addr) (w : Addr) (kw : ClassId) (ys : List Int32) (cP : Int32) (h0 : Heap) (rv : Option Value) (h : Heap) (L : List Loc) : Prop := ∃ s1 : Addr, ∃ v : Addr, ∃ kv : ClassId, rv = some (.ref s1) ∧ Fr Z.heap.size L ∧ Keep h0 h [] ∧ h0.size ≤ s1 ∧ h0.size ≤ v ∧ Exa Z h s1 "java/lang/String" ∧ Fld Z h s1 "java/lang/String" "value" "[B" (.ref v) ∧ Fld Z h s1 "java/lang/String" "coder" "B" (.int (0 : Int32)) ∧ AL Z h v kv .byte (by8 ys)
theorem rm_tos (l : Launch) (Z : State) (a0 : Array Value) (hw : ∀ d ∈ tables_1, d.before a0 Z = true) (b : Addr) (w : Addr) (kw : ClassId) (ys : List Int32) (cP : Int32) (h0 : Heap) (O0 : Ext Z.heap h0) (E0 : Exa Z h0 b "java/lang/StringBuilder") (F1 : Fld Z h0 b "java/lang/AbstractStringBuilder" "value" "[B" (.ref w)) (F2 : Fld Z h0 b "java/lang/AbstractStringBuilder" "coder" "B" (.int (0 : Int32))) (F3 : Fld Z h0 b "java/lang/AbstractStringBuilder" "count" "I" (.int ys.length.toInt32)) (Ew : Exa Z h0 w "[B") (Aw : AL Z h0 w kw .byte (by8 ys)) (SC : Sta Z Z.heap "java/lang/String" "COMPACT_STRINGS" "Z" (.int cP)) (hy : ys.length ≤ 16) (hP : ¬ cP = (0 : Int32)) :
    Met1 l Z mN23 jdk_67_method_42_code 1 (some (.object "java/lang/String")) ({ frames := 4, cells := 2, slots := 20, locals := 59 } : Room) #[(.ref b)] h0 (Q_tos Z b w kw ys cP h0) := by
  refine Met1.of_body (Ls := #[.val (.ref b)]) pf_15 (fun m => by first | (simp [entryFrame, mkF, argsToLocals, Value.category]; done) | rfl) ?_
  intro p e s m below meth c T0 C X0 e0
  have N0 : Fr Z.heap.size [] := Fr.nil _
  refine Go.newO (pc' := 3) C X0 (tw hw 80 rfl) (tw hw 34 rfl) (tw hw 33 rfl) e0 (by decide) (by decide) d15_0 rfl ?_
  intro T101 h101 b101 X101 e101 g101 E101 A101 D101
  have n_b101 : Z.heap.size ≤ b101 := Nat.le_trans O0.1 (Nat.le_of_eq g101.symm)
  have z_b101 : h0.size ≤ b101 := Nat.le_trans (Nat.le_refl _) (Nat.le_of_eq g101.symm)
  have F101_value : Fld Z h101 b101 "java/lang/String" "value" "[B" .null := D101 (Or.inr (tw hw 35 rfl)) (ty := (.array .byte)) (by decide)
  have F101_coder : Fld Z h101 b101 "java/lang/String" "coder" "B" (.int (0 : Int32)) := D101 (Or.inr (tw hw 36 rfl)) (ty := .byte) (by decide)
  refine Go.dup (pc' := 4) C X101 d15_3 rfl rfl ?_
  refine Go.aloadN (pc' := 5) C X101 d15_4 rfl rfl rfl ?_
  have c103 : Exa Z h101 b "java/lang/StringBuilder" := (Exa.ext E101 E0)
  have c104 : Fld Z h101 b "java/lang/AbstractStringBuilder" "value" "[B" (.ref w) := (Fld.ext E101 F1)
  have c105 : Fld Z h101 b "java/lang/AbstractStringBuilder" "coder" "B" (.int (0 : Int32)) := (Fld.ext E101 F2)
  have c106 : Fld Z h101 b "java/lang/AbstractStringBuilder" "count" "I" (.int ys.length.toInt32) := (Fld.ext E101 F3)
  have c107 : Exa Z h101 w "[B" := (Exa.ext E101 Ew)
  have c108 : AL Z h101 w kw .byte (by8 ys) := (AL.ext E101 Aw)
  have O109 : Ext Z.heap h101 := (Ext.trans O0 E101)
  refine Go.callI (y := mN16) (a := b101) (pc' := 8) C X101 rfl (tw hw 81 rfl) (tw hw 82 rfl) (by decide) (rm_sSB l Z a0 hw b101 b w kw ys cP h101 O109 A101 F101_value F101_coder c103 c104 c105 c106 c107 c108 SC hy hP n_b101) (tw hw 84 rfl) (tw hw 33 rfl) e101 (argsL := [(.ref b)]) (rest := [(.ref b101)]) (W := 1) rfl rfl pd_13 rfl (Nat.le_of_eq rfl) rfl (by decide) (by decide) (by decide) (by decide) rfl d15_5 rfl ?_
  intro T102 v102 L102 X102 q102
  obtain ⟨v_102, kv_102, rfl, N102q, K102, B102_0, P102_0, P102_1, P102_2⟩ := q102
  have N102 := Fr.app N0 N102q
  have n_v_102 : Z.heap.size ≤ v_102 := Nat.le_trans O109.1 B102_0
  have z_v_102 : h0.size ≤ v_102 := Nat.le_trans (Nat.le_trans (Nat.le_refl _) E101.1) B102_0
  have K110 : Keep h0 T102.heap [] := (((Keep.refl h0 []).ext E101).trans K102 (allS (Or.inr z_b101) all0))
  have c111 : Exa Z T102.heap b101 "java/lang/String" := (Exa.keep A101 K102)
  exact Go.retA C X102 rfl d15_8 rfl rfl rfl ⟨b101, v_102, kv_102, rfl, N102, K110, z_b101, z_v_102, c111, P102_0, P102_1, P102_2⟩ (by decide) (by decide)
def alf (x : Int32) : Int32 := if x < (26 : Int32) then (65 : Int32) + x else (50 : Int32) + (x - (26 : Int32))
def ix (w : Int64) (q : Int32) : Int32 := (((w.toUInt64 >>> (q &&& 0x3f).toInt64.toUInt64).toInt64) &&& (31 : Int64)).toInt32
def bt (w : Int64) (q : Int32) : Int32 := ((w.toUInt64 >>> (q &&& 0x3f).toInt64.toUInt64).toInt64).toInt32
def sgI (y : Int32) : Int32 := if y = (1 : Int32) then 2 else if y = (2 : Int32) then 4 else if y = (3 : Int32) then 5 else if y = (4 : Int32) then 7 else 8
def chI (w : Int64) (k y : Int32) : Int32 := if k < sgI y then alf (ix w ((35 : Int32) - ((5 : Int32) * k))) else 61
theorem alf_r {x : Int32} (h : 0 ≤ x.toInt ∧ x.toInt < 32) : 0 ≤ (alf x).toInt ∧ (alf x).toInt ≤ 255 := by
  unfold alf
  split
  · have v := c_iadd (65 : Int32) x
    have r := rng32 ((65 : Int32) + x)
    simp only [Int32.reduceToInt] at v; omega
  · have u := c_isub x (26 : Int32)
    have r0 := rng32 (x - (26 : Int32))
    have v := c_iadd (50 : Int32) (x - (26 : Int32))
    have r := rng32 ((50 : Int32) + (x - (26 : Int32)))
    simp only [Int32.reduceToInt] at u v; omega
theorem ix_r (w : Int64) (q : Int32) : 0 ≤ (ix w q).toInt ∧ (ix w q).toInt < 32 := by
  unfold ix
  have h := c_maskL ((w.toUInt64 >>> (q &&& 0x3f).toInt64.toUInt64).toInt64) (31 : Int64) 5 (by decide) (by decide)
  generalize (((w.toUInt64 >>> (q &&& 0x3f).toInt64.toUInt64).toInt64) &&& (31 : Int64)) = z at *
  have u := c_l2i z
  have r := rng32 z.toInt32
  omega
theorem chI_r (w : Int64) (k y : Int32) : 0 ≤ (chI w k y).toInt ∧ (chI w k y).toInt ≤ 255 := by
  unfold chI
  split
  · exact alf_r (ix_r _ _)
  · decide
theorem al1 {x : Int32} (h : 0 ≤ x.toInt ∧ x.toInt < 32) (q : x < (26 : Int32)) : nar .char (((65 : Int32) + x).toUInt32.toUInt16.toUInt32.toInt32) = alf x := by
  have e : alf x = (65 : Int32) + x := if_pos q
  rw [← e, i2cr (alf_r h), narcr (alf_r h)]
theorem al2 {x : Int32} (h : 0 ≤ x.toInt ∧ x.toInt < 32) (q : ¬ x < (26 : Int32)) : nar .char (((50 : Int32) + (x - (26 : Int32))).toUInt32.toUInt16.toUInt32.toInt32) = alf x := by
  have e : alf x = (50 : Int32) + (x - (26 : Int32)) := if_neg q
  rw [← e, i2cr (alf_r h), narcr (alf_r h)]
theorem andn (w m : Int64) : w &&& (m ^^^ (-1 : Int64)) = w - (w &&& m) := by
  apply Int64.toBitVec_inj.mp
  simp only [Int64.toBitVec_and, Int64.toBitVec_xor, Int64.toBitVec_sub]
  have h1 : (w.toBitVec &&& (m.toBitVec ^^^ (-1 : Int64).toBitVec)) + (w.toBitVec &&& m.toBitVec) = w.toBitVec := by
    rw [BitVec.add_eq_or_of_and_eq_zero]
    · apply BitVec.eq_of_getLsbD_eq
      intro i hi
      have : ((-1 : Int64).toBitVec).getLsbD i = true := by
        have : (-1 : Int64).toBitVec = BitVec.allOnes 64 := by decide
        rw [this, BitVec.getLsbD_allOnes]; simp only [hi, decide_true]
      simp only [BitVec.getLsbD_or, BitVec.getLsbD_and, BitVec.getLsbD_xor, this]
      cases w.toBitVec.getLsbD i <;> cases m.toBitVec.getLsbD i <;> rfl
    · apply BitVec.eq_of_getLsbD_eq
      intro i hi
      have : ((-1 : Int64).toBitVec).getLsbD i = true := by
        have : (-1 : Int64).toBitVec = BitVec.allOnes 64 := by decide
        rw [this, BitVec.getLsbD_allOnes]; simp only [hi, decide_true]
      simp only [BitVec.getLsbD_and, BitVec.getLsbD_xor, this, BitVec.getLsbD_zero]
      cases w.toBitVec.getLsbD i <;> cases m.toBitVec.getLsbD i <;> rfl
  exact (BitVec.sub_eq_iff_eq_add.mpr h1.symm).symm
theorem pf_8 : plainFor mN1 = true := plainFor_of_name (by first | (simp [plainName, overriddenIn]; done) | decide +kernel)
theorem d8_0 : decode method_6_code 0 = .ok (.iload_n 0, 1) := by decide +kernel
theorem d8_1 : decode method_6_code 1 = .ok (.bipush 26, 2) := by decide +kernel
theorem d8_3 : decode method_6_code 3 = .ok (.if_icmp .ge 9, 3) := by decide +kernel
theorem d8_6 : decode method_6_code 6 = .ok (.bipush 65, 2) := by decide +kernel
theorem d8_8 : decode method_6_code 8 = .ok (.iload_n 0, 1) := by decide +kernel
theorem d8_9 : decode method_6_code 9 = .ok (.iadd, 1) := by decide +kernel
theorem d8_10 : decode method_6_code 10 = .ok (.i2c, 1) := by decide +kernel
theorem d8_11 : decode method_6_code 11 = .ok (.ireturn, 1) := by decide +kernel
theorem d8_12 : decode method_6_code 12 = .ok (.bipush 50, 2) := by decide +kernel
theorem d8_14 : decode method_6_code 14 = .ok (.iload_n 0, 1) := by decide +kernel
theorem d8_15 : decode method_6_code 15 = .ok (.bipush 26, 2) := by decide +kernel
theorem d8_17 : decode method_6_code 17 = .ok (.isub, 1) := by decide +kernel
theorem d8_18 : decode method_6_code 18 = .ok (.iadd, 1) := by decide +kernel
theorem d8_19 : decode method_6_code 19 = .ok (.i2c, 1) := by decide +kernel
theorem d8_20 : decode method_6_code 20 = .ok (.ireturn, 1) := by decide +kernel
def Q_alp (Z : State) (x : Int32) (h0 : Heap) (rv : Option Value) (h : Heap) (L : List Loc) : Prop := rv = some (.int (alf x)) ∧ L = [] ∧ h = h0
theorem rm_alp (l : Launch) (Z : State) (a0 : Array Value) (hw : ∀ d ∈ tables_1, d.before a0 Z = true) (x : Int32) (h0 : Heap) (O0 : Ext Z.heap h0) (hx : 0 ≤ x.toInt ∧ x.toInt < 32) :
    Met1 l Z mN1 method_6_code 1 (some .char) ({ frames := 0, cells := 0, slots := 0, locals := 0 } : Room) #[(.int x)] h0 (Q_alp Z x h0) := by
  refine Met1.of_body (Ls := #[.val (.int x)]) pf_8 (fun m => by first | (simp [entryFrame, mkF, argsToLocals, Value.category]; done) | rfl) ?_
  intro p e s m below meth c T0 C X0 e0
  have N0 : Fr Z.heap.size [] := Fr.nil _
  refine Go.iloadN (pc' := 1) C X0 d8_0 rfl rfl ?_
  refine Go.bipush (z := (26 : Int32)) (pc' := 3) C X0 d8_1 rfl rfl ?_
  by_cases hc3_101 : x < (26 : Int32)
  · refine Go.icmpNo (pc' := 6) C X0 d8_3 (tlt (x := x) (y := (26 : Int32)) hc3_101).2.1 rfl ?_
    refine Go.bipush (z := (65 : Int32)) (pc' := 8) C X0 d8_6 rfl rfl ?_
    refine Go.iloadN (pc' := 9) C X0 d8_8 rfl rfl ?_
    refine Go.iadd (pc' := 10) C X0 d8_9 rfl ?_
    refine Go.i2c (pc' := 11) C X0 d8_10 rfl ?_
    exact Go.retN C X0 rfl d8_11 (by simp) (by rw [e0]; exact ⟨(congrArg (fun z => some (Value.int z)) (al1 hx hc3_101)), rfl, rfl⟩) (by decide) (by decide)
  · refine Go.icmpYes (pc' := 12) C X0 d8_3 (flt (x := x) (y := (26 : Int32)) hc3_101).2.1 (by decide) (by decide) ?_
    refine Go.bipush (z := (50 : Int32)) (pc' := 14) C X0 d8_12 rfl rfl ?_
    refine Go.iloadN (pc' := 15) C X0 d8_14 rfl rfl ?_
    refine Go.bipush (z := (26 : Int32)) (pc' := 17) C X0 d8_15 rfl rfl ?_
    refine Go.isub (pc' := 18) C X0 d8_17 rfl ?_
    refine Go.iadd (pc' := 19) C X0 d8_18 rfl ?_
    refine Go.i2c (pc' := 20) C X0 d8_19 rfl ?_
    exact Go.retN C X0 rfl d8_20 (by simp) (by rw [e0]; exact ⟨(congrArg (fun z => some (Value.int z)) (al2 hx hc3_101)), rfl, rfl⟩) (by decide) (by decide)
theorem pf_7 : plainFor mN6 = true := plainFor_of_name (by first | (simp [plainName, overriddenIn]; done) | decide +kernel)
theorem d7_0 : decode method_5_code 0 = .ok (.iload_n 0, 1) := by decide +kernel
theorem d7_1 : decode method_5_code 1 = .ok (.iconst 1, 1) := by decide +kernel
theorem d7_2 : decode method_5_code 2 = .ok (.if_icmp .ne 5, 3) := by decide +kernel
theorem d7_5 : decode method_5_code 5 = .ok (.iconst 2, 1) := by decide +kernel
theorem d7_6 : decode method_5_code 6 = .ok (.ireturn, 1) := by decide +kernel
theorem d7_7 : decode method_5_code 7 = .ok (.iload_n 0, 1) := by decide +kernel
theorem d7_8 : decode method_5_code 8 = .ok (.iconst 2, 1) := by decide +kernel
theorem d7_9 : decode method_5_code 9 = .ok (.if_icmp .ne 5, 3) := by decide +kernel
theorem d7_12 : decode method_5_code 12 = .ok (.iconst 4, 1) := by decide +kernel
theorem d7_13 : decode method_5_code 13 = .ok (.ireturn, 1) := by decide +kernel
theorem d7_14 : decode method_5_code 14 = .ok (.iload_n 0, 1) := by decide +kernel
theorem d7_15 : decode method_5_code 15 = .ok (.iconst 3, 1) := by decide +kernel
theorem d7_16 : decode method_5_code 16 = .ok (.if_icmp .ne 5, 3) := by decide +kernel
theorem d7_19 : decode method_5_code 19 = .ok (.iconst 5, 1) := by decide +kernel
theorem d7_20 : decode method_5_code 20 = .ok (.ireturn, 1) := by decide +kernel
theorem d7_21 : decode method_5_code 21 = .ok (.iload_n 0, 1) := by decide +kernel
theorem d7_22 : decode method_5_code 22 = .ok (.iconst 4, 1) := by decide +kernel
theorem d7_23 : decode method_5_code 23 = .ok (.if_icmp .ne 6, 3) := by decide +kernel
theorem d7_26 : decode method_5_code 26 = .ok (.bipush 7, 2) := by decide +kernel
theorem d7_28 : decode method_5_code 28 = .ok (.ireturn, 1) := by decide +kernel
theorem d7_29 : decode method_5_code 29 = .ok (.bipush 8, 2) := by decide +kernel
theorem d7_31 : decode method_5_code 31 = .ok (.ireturn, 1) := by decide +kernel
def Q_sig (Z : State) (y : Int32) (h0 : Heap) (rv : Option Value) (h : Heap) (L : List Loc) : Prop := rv = some (.int (sgI y)) ∧ L = [] ∧ h = h0
theorem rm_sig (l : Launch) (Z : State) (a0 : Array Value) (hw : ∀ d ∈ tables_1, d.before a0 Z = true) (y : Int32) (h0 : Heap) (O0 : Ext Z.heap h0) :
    Met1 l Z mN6 method_5_code 1 (some .int) ({ frames := 0, cells := 0, slots := 0, locals := 0 } : Room) #[(.int y)] h0 (Q_sig Z y h0) := by
  refine Met1.of_body (Ls := #[.val (.int y)]) pf_7 (fun m => by first | (simp [entryFrame, mkF, argsToLocals, Value.category]; done) | rfl) ?_
  intro p e s m below meth c T0 C X0 e0
  have N0 : Fr Z.heap.size [] := Fr.nil _
  refine Go.iloadN (pc' := 1) C X0 d7_0 rfl rfl ?_
  refine Go.iconst (z := (1 : Int32)) (pc' := 2) C X0 d7_1 rfl rfl ?_
  by_cases hc2_101 : y = (1 : Int32)
  · refine Go.icmpNo (pc' := 5) C X0 d7_2 (teq (x := y) (y := (1 : Int32)) hc2_101).2 rfl ?_
    refine Go.iconst (z := (2 : Int32)) (pc' := 6) C X0 d7_5 rfl rfl ?_
    exact Go.retI C X0 rfl d7_6 (by rw [e0]; exact ⟨(by simp [sgI, hc2_101]), rfl, rfl⟩) (by decide) (by decide)
  · refine Go.icmpYes (pc' := 7) C X0 d7_2 (feq (x := y) (y := (1 : Int32)) hc2_101).2 (by decide) (by decide) ?_
    refine Go.iloadN (pc' := 8) C X0 d7_7 rfl rfl ?_
    refine Go.iconst (z := (2 : Int32)) (pc' := 9) C X0 d7_8 rfl rfl ?_
    by_cases hc9_102 : y = (2 : Int32)
    · refine Go.icmpNo (pc' := 12) C X0 d7_9 (teq (x := y) (y := (2 : Int32)) hc9_102).2 rfl ?_
      refine Go.iconst (z := (4 : Int32)) (pc' := 13) C X0 d7_12 rfl rfl ?_
      exact Go.retI C X0 rfl d7_13 (by rw [e0]; exact ⟨(by simp [sgI, hc2_101, hc9_102]), rfl, rfl⟩) (by decide) (by decide)
    · refine Go.icmpYes (pc' := 14) C X0 d7_9 (feq (x := y) (y := (2 : Int32)) hc9_102).2 (by decide) (by decide) ?_
      refine Go.iloadN (pc' := 15) C X0 d7_14 rfl rfl ?_
      refine Go.iconst (z := (3 : Int32)) (pc' := 16) C X0 d7_15 rfl rfl ?_
      by_cases hc16_103 : y = (3 : Int32)
      · refine Go.icmpNo (pc' := 19) C X0 d7_16 (teq (x := y) (y := (3 : Int32)) hc16_103).2 rfl ?_
        refine Go.iconst (z := (5 : Int32)) (pc' := 20) C X0 d7_19 rfl rfl ?_
        exact Go.retI C X0 rfl d7_20 (by rw [e0]; exact ⟨(by simp [sgI, hc2_101, hc9_102, hc16_103]), rfl, rfl⟩) (by decide) (by decide)
      · refine Go.icmpYes (pc' := 21) C X0 d7_16 (feq (x := y) (y := (3 : Int32)) hc16_103).2 (by decide) (by decide) ?_
        refine Go.iloadN (pc' := 22) C X0 d7_21 rfl rfl ?_
        refine Go.iconst (z := (4 : Int32)) (pc' := 23) C X0 d7_22 rfl rfl ?_
        by_cases hc23_104 : y = (4 : Int32)
        · refine Go.icmpNo (pc' := 26) C X0 d7_23 (teq (x := y) (y := (4 : Int32)) hc23_104).2 rfl ?_
          refine Go.bipush (z := (7 : Int32)) (pc' := 28) C X0 d7_26 rfl rfl ?_
          exact Go.retI C X0 rfl d7_28 (by rw [e0]; exact ⟨(by simp [sgI, hc2_101, hc9_102, hc16_103, hc23_104]), rfl, rfl⟩) (by decide) (by decide)
        · refine Go.icmpYes (pc' := 29) C X0 d7_23 (feq (x := y) (y := (4 : Int32)) hc23_104).2 (by decide) (by decide) ?_
          refine Go.bipush (z := (8 : Int32)) (pc' := 31) C X0 d7_29 rfl rfl ?_
          exact Go.retI C X0 rfl d7_31 (by rw [e0]; exact ⟨(by simp [sgI, hc2_101, hc9_102, hc16_103, hc23_104]), rfl, rfl⟩) (by decide) (by decide)
theorem pd_14 : parseMethodDescriptor "(I)I" = some ⟨[.int], some .int⟩ := by decide +kernel
theorem pd_15 : parseMethodDescriptor "(I)C" = some ⟨[.int], some .char⟩ := by decide +kernel
theorem pf_6 : plainFor mN2 = true := plainFor_of_name (by first | (simp [plainName, overriddenIn]; done) | decide +kernel)
theorem d6_0 : decode method_7_code 0 = .ok (.iload_n 2, 1) := by decide +kernel
theorem d6_1 : decode method_7_code 1 = .ok (.iload_n 3, 1) := by decide +kernel
theorem d6_2 : decode method_7_code 2 = .ok (.invokestatic 52, 3) := by decide +kernel
theorem d6_5 : decode method_7_code 5 = .ok (.if_icmp .ge 20, 3) := by decide +kernel
theorem d6_8 : decode method_7_code 8 = .ok (.lload_n 0, 1) := by decide +kernel
theorem d6_9 : decode method_7_code 9 = .ok (.bipush 35, 2) := by decide +kernel
theorem d6_11 : decode method_7_code 11 = .ok (.iconst 5, 1) := by decide +kernel
theorem d6_12 : decode method_7_code 12 = .ok (.iload_n 2, 1) := by decide +kernel
theorem d6_13 : decode method_7_code 13 = .ok (.imul, 1) := by decide +kernel
theorem d6_14 : decode method_7_code 14 = .ok (.isub, 1) := by decide +kernel
theorem d6_15 : decode method_7_code 15 = .ok (.lushr, 1) := by decide +kernel
theorem d6_16 : decode method_7_code 16 = .ok (.ldc2_w 56, 3) := by decide +kernel
theorem d6_19 : decode method_7_code 19 = .ok (.land, 1) := by decide +kernel
theorem d6_20 : decode method_7_code 20 = .ok (.l2i, 1) := by decide +kernel
theorem d6_21 : decode method_7_code 21 = .ok (.invokestatic 58, 3) := by decide +kernel
theorem d6_24 : decode method_7_code 24 = .ok (.ireturn, 1) := by decide +kernel
theorem d6_25 : decode method_7_code 25 = .ok (.bipush 61, 2) := by decide +kernel
theorem d6_27 : decode method_7_code 27 = .ok (.ireturn, 1) := by decide +kernel
def Q_enc (Z : State) (w : Int64) (k : Int32) (y : Int32) (h0 : Heap) (rv : Option Value) (h : Heap) (L : List Loc) : Prop := rv = some (.int (chI w k y)) ∧ L = [] ∧ h = h0
theorem rm_enc (l : Launch) (Z : State) (a0 : Array Value) (hw : ∀ d ∈ tables_1, d.before a0 Z = true) (w : Int64) (k : Int32) (y : Int32) (h0 : Heap) (O0 : Ext Z.heap h0) :
    Met1 l Z mN2 method_7_code 4 (some .char) ({ frames := 1, cells := 0, slots := 0, locals := 13 } : Room) #[(.long w), (.int k), (.int y)] h0 (Q_enc Z w k y h0) := by
  refine Met1.of_body (Ls := #[.val (.long w), .second, .val (.int k), .val (.int y)]) pf_6 (fun m => by first | (simp [entryFrame, mkF, argsToLocals, Value.category]; done) | rfl) ?_
  intro p e s m below meth c T0 C X0 e0
  have N0 : Fr Z.heap.size [] := Fr.nil _
  refine Go.iloadN (pc' := 1) C X0 d6_0 rfl rfl ?_
  refine Go.iloadN (pc' := 2) C X0 d6_1 rfl rfl ?_
  refine Go.callS (y := mN6) (pc' := 5) C X0 (tw hw 25 rfl) (tw hw 26 rfl) (by decide) (rm_sig l Z a0 hw y h0 O0 ) (tw hw 27 rfl) (tw hw 4 rfl) e0 (argsL := [(.int y)]) (rest := [(.int k)]) (W := 1) rfl rfl pd_14 rfl (Nat.le_of_eq rfl) rfl (by decide) (by decide) (by decide) (by decide) d6_2 rfl ?_
  intro T101 v101 L101 X101 q101
  obtain ⟨rfl, rfl, e101⟩ := q101
  have N101 := Fr.app N0 (Fr.nil _)
  by_cases hc5_102 : k < (sgI y)
  · refine Go.icmpNo (pc' := 8) C X101 d6_5 (tlt (x := k) (y := (sgI y)) hc5_102).2.1 rfl ?_
    refine Go.lloadN (pc' := 9) C X101 d6_8 rfl rfl ?_
    refine Go.bipush (z := (35 : Int32)) (pc' := 11) C X101 d6_9 rfl rfl ?_
    refine Go.iconst (z := (5 : Int32)) (pc' := 12) C X101 d6_11 rfl rfl ?_
    refine Go.iloadN (pc' := 13) C X101 d6_12 rfl rfl ?_
    refine Go.imul (pc' := 14) C X101 d6_13 rfl ?_
    refine Go.isub (pc' := 15) C X101 d6_14 rfl ?_
    refine Go.lushr (pc' := 16) C X101 d6_15 rfl ?_
    refine Go.ldc2J (pc' := 19) C X101 d6_16 (tw hw 28 rfl) rfl ?_
    refine Go.land (pc' := 20) C X101 d6_19 rfl ?_
    refine Go.l2i (pc' := 21) C X101 d6_20 rfl ?_
    refine Go.callS (y := mN1) (pc' := 24) C X101 (tw hw 29 rfl) (tw hw 30 rfl) (by decide) (rm_alp l Z a0 hw (((((w.toUInt64 >>> (((35 : Int32) - ((5 : Int32) * k)) &&& 0x3f).toInt64.toUInt64).toInt64) &&& (31 : Int64)).toInt32)) h0 O0 (ix_r _ _)) (tw hw 31 rfl) (tw hw 4 rfl) e101 (argsL := [(.int ((((w.toUInt64 >>> (((35 : Int32) - ((5 : Int32) * k)) &&& 0x3f).toInt64.toUInt64).toInt64) &&& (31 : Int64)).toInt32))]) (rest := []) (W := 0) rfl rfl pd_15 rfl (Nat.le_of_eq rfl) rfl (by decide) (by decide) (by decide) (by decide) d6_21 rfl ?_
    intro T103 v103 L103 X103 q103
    obtain ⟨rfl, rfl, e103⟩ := q103
    have N103 := Fr.app N101 (Fr.nil _)
    exact Go.retN C X103 rfl d6_24 (by simp) (by rw [e103]; exact ⟨(congrArg (fun z => some (Value.int z)) (by rw [chI, if_pos hc5_102]; exact narcr (alf_r (ix_r _ _)))), (by simp), rfl⟩) (by decide) (by decide)
  · refine Go.icmpYes (pc' := 25) C X101 d6_5 (flt (x := k) (y := (sgI y)) hc5_102).2.1 (by decide) (by decide) ?_
    refine Go.bipush (z := (61 : Int32)) (pc' := 27) C X101 d6_25 rfl rfl ?_
    exact Go.retN C X101 rfl d6_27 (by simp) (by rw [e101]; exact ⟨(congrArg (fun z => some (Value.int z)) (by rw [chI, if_neg hc5_102]; rfl)), (by simp), rfl⟩) (by decide) (by decide)
theorem pd_16 : parseMethodDescriptor "(JII)C" = some ⟨[.long, .int, .int], some .char⟩ := by decide +kernel
theorem pf_5 : plainFor mN3 = true := plainFor_of_name (by first | (simp [plainName, overriddenIn]; done) | decide +kernel)
theorem d5_0 : decode method_8_code 0 = .ok (.aload_n 0, 1) := by decide +kernel
theorem d5_1 : decode method_8_code 1 = .ok (.iload_n 1, 1) := by decide +kernel
theorem d5_2 : decode method_8_code 2 = .ok (.lload_n 2, 1) := by decide +kernel
theorem d5_3 : decode method_8_code 3 = .ok (.iconst 0, 1) := by decide +kernel
theorem d5_4 : decode method_8_code 4 = .ok (.iload 4, 2) := by decide +kernel
theorem d5_6 : decode method_8_code 6 = .ok (.invokestatic 62, 3) := by decide +kernel
theorem d5_9 : decode method_8_code 9 = .ok (.castore, 1) := by decide +kernel
theorem d5_10 : decode method_8_code 10 = .ok (.aload_n 0, 1) := by decide +kernel
theorem d5_11 : decode method_8_code 11 = .ok (.iload_n 1, 1) := by decide +kernel
theorem d5_12 : decode method_8_code 12 = .ok (.iconst 1, 1) := by decide +kernel
theorem d5_13 : decode method_8_code 13 = .ok (.iadd, 1) := by decide +kernel
theorem d5_14 : decode method_8_code 14 = .ok (.lload_n 2, 1) := by decide +kernel
theorem d5_15 : decode method_8_code 15 = .ok (.iconst 1, 1) := by decide +kernel
theorem d5_16 : decode method_8_code 16 = .ok (.iload 4, 2) := by decide +kernel
theorem d5_18 : decode method_8_code 18 = .ok (.invokestatic 62, 3) := by decide +kernel
theorem d5_21 : decode method_8_code 21 = .ok (.castore, 1) := by decide +kernel
theorem d5_22 : decode method_8_code 22 = .ok (.aload_n 0, 1) := by decide +kernel
theorem d5_23 : decode method_8_code 23 = .ok (.iload_n 1, 1) := by decide +kernel
theorem d5_24 : decode method_8_code 24 = .ok (.iconst 2, 1) := by decide +kernel
theorem d5_25 : decode method_8_code 25 = .ok (.iadd, 1) := by decide +kernel
theorem d5_26 : decode method_8_code 26 = .ok (.lload_n 2, 1) := by decide +kernel
theorem d5_27 : decode method_8_code 27 = .ok (.iconst 2, 1) := by decide +kernel
theorem d5_28 : decode method_8_code 28 = .ok (.iload 4, 2) := by decide +kernel
theorem d5_30 : decode method_8_code 30 = .ok (.invokestatic 62, 3) := by decide +kernel
theorem d5_33 : decode method_8_code 33 = .ok (.castore, 1) := by decide +kernel
theorem d5_34 : decode method_8_code 34 = .ok (.aload_n 0, 1) := by decide +kernel
theorem d5_35 : decode method_8_code 35 = .ok (.iload_n 1, 1) := by decide +kernel
theorem d5_36 : decode method_8_code 36 = .ok (.iconst 3, 1) := by decide +kernel
theorem d5_37 : decode method_8_code 37 = .ok (.iadd, 1) := by decide +kernel
theorem d5_38 : decode method_8_code 38 = .ok (.lload_n 2, 1) := by decide +kernel
theorem d5_39 : decode method_8_code 39 = .ok (.iconst 3, 1) := by decide +kernel
theorem d5_40 : decode method_8_code 40 = .ok (.iload 4, 2) := by decide +kernel
theorem d5_42 : decode method_8_code 42 = .ok (.invokestatic 62, 3) := by decide +kernel
theorem d5_45 : decode method_8_code 45 = .ok (.castore, 1) := by decide +kernel
theorem d5_46 : decode method_8_code 46 = .ok (.aload_n 0, 1) := by decide +kernel
theorem d5_47 : decode method_8_code 47 = .ok (.iload_n 1, 1) := by decide +kernel
theorem d5_48 : decode method_8_code 48 = .ok (.iconst 4, 1) := by decide +kernel
theorem d5_49 : decode method_8_code 49 = .ok (.iadd, 1) := by decide +kernel
theorem d5_50 : decode method_8_code 50 = .ok (.lload_n 2, 1) := by decide +kernel
theorem d5_51 : decode method_8_code 51 = .ok (.iconst 4, 1) := by decide +kernel
theorem d5_52 : decode method_8_code 52 = .ok (.iload 4, 2) := by decide +kernel
theorem d5_54 : decode method_8_code 54 = .ok (.invokestatic 62, 3) := by decide +kernel
theorem d5_57 : decode method_8_code 57 = .ok (.castore, 1) := by decide +kernel
theorem d5_58 : decode method_8_code 58 = .ok (.aload_n 0, 1) := by decide +kernel
theorem d5_59 : decode method_8_code 59 = .ok (.iload_n 1, 1) := by decide +kernel
theorem d5_60 : decode method_8_code 60 = .ok (.iconst 5, 1) := by decide +kernel
theorem d5_61 : decode method_8_code 61 = .ok (.iadd, 1) := by decide +kernel
theorem d5_62 : decode method_8_code 62 = .ok (.lload_n 2, 1) := by decide +kernel
theorem d5_63 : decode method_8_code 63 = .ok (.iconst 5, 1) := by decide +kernel
theorem d5_64 : decode method_8_code 64 = .ok (.iload 4, 2) := by decide +kernel
theorem d5_66 : decode method_8_code 66 = .ok (.invokestatic 62, 3) := by decide +kernel
theorem d5_69 : decode method_8_code 69 = .ok (.castore, 1) := by decide +kernel
theorem d5_70 : decode method_8_code 70 = .ok (.aload_n 0, 1) := by decide +kernel
theorem d5_71 : decode method_8_code 71 = .ok (.iload_n 1, 1) := by decide +kernel
theorem d5_72 : decode method_8_code 72 = .ok (.bipush 6, 2) := by decide +kernel
theorem d5_74 : decode method_8_code 74 = .ok (.iadd, 1) := by decide +kernel
theorem d5_75 : decode method_8_code 75 = .ok (.lload_n 2, 1) := by decide +kernel
theorem d5_76 : decode method_8_code 76 = .ok (.bipush 6, 2) := by decide +kernel
theorem d5_78 : decode method_8_code 78 = .ok (.iload 4, 2) := by decide +kernel
theorem d5_80 : decode method_8_code 80 = .ok (.invokestatic 62, 3) := by decide +kernel
theorem d5_83 : decode method_8_code 83 = .ok (.castore, 1) := by decide +kernel
theorem d5_84 : decode method_8_code 84 = .ok (.aload_n 0, 1) := by decide +kernel
theorem d5_85 : decode method_8_code 85 = .ok (.iload_n 1, 1) := by decide +kernel
theorem d5_86 : decode method_8_code 86 = .ok (.bipush 7, 2) := by decide +kernel
theorem d5_88 : decode method_8_code 88 = .ok (.iadd, 1) := by decide +kernel
theorem d5_89 : decode method_8_code 89 = .ok (.lload_n 2, 1) := by decide +kernel
theorem d5_90 : decode method_8_code 90 = .ok (.bipush 7, 2) := by decide +kernel
theorem d5_92 : decode method_8_code 92 = .ok (.iload 4, 2) := by decide +kernel
theorem d5_94 : decode method_8_code 94 = .ok (.invokestatic 62, 3) := by decide +kernel
theorem d5_97 : decode method_8_code 97 = .ok (.castore, 1) := by decide +kernel
theorem d5_98 : decode method_8_code 98 = .ok (.return_, 1) := by decide +kernel
def Q_f8 (Z : State) (a : Addr) (ka : ClassId) (w : Int64) (y : Int32) (x0 : Int32) (x1 : Int32) (x2 : Int32) (x3 : Int32) (x4 : Int32) (x5 : Int32) (x6 : Int32) (x7 : Int32) (h0 : Heap) (rv : Option Value) (h : Heap) (L : List Loc) : Prop := rv = none ∧ Fr Z.heap.size L ∧ Keep h0 h [a] ∧ AL Z h a ka .char [(.int (chI w (0 : Int32) y)), (.int (chI w (1 : Int32) y)), (.int (chI w (2 : Int32) y)), (.int (chI w (3 : Int32) y)), (.int (chI w (4 : Int32) y)), (.int (chI w (5 : Int32) y)), (.int (chI w (6 : Int32) y)), (.int (chI w (7 : Int32) y))]
theorem rm_f8 (l : Launch) (Z : State) (a0 : Array Value) (hw : ∀ d ∈ tables_1, d.before a0 Z = true) (a : Addr) (ka : ClassId) (w : Int64) (y : Int32) (x0 : Int32) (x1 : Int32) (x2 : Int32) (x3 : Int32) (x4 : Int32) (x5 : Int32) (x6 : Int32) (x7 : Int32) (h0 : Heap) (O0 : Ext Z.heap h0) (A0 : AL Z h0 a ka .char [(.int x0), (.int x1), (.int x2), (.int x3), (.int x4), (.int x5), (.int x6), (.int x7)]) (hn : Z.heap.size ≤ a) :
    Met1 l Z mN3 method_8_code 5 none ({ frames := 2, cells := 0, slots := 0, locals := 30 } : Room) #[(.ref a), (.int (0 : Int32)), (.long w), (.int y)] h0 (Q_f8 Z a ka w y x0 x1 x2 x3 x4 x5 x6 x7 h0) := by
  refine Met1.of_body (Ls := #[.val (.ref a), .val (.int (0 : Int32)), .val (.long w), .second, .val (.int y)]) pf_5 (fun m => by first | (simp [entryFrame, mkF, argsToLocals, Value.category]; done) | rfl) ?_
  intro p e s m below meth c T0 C X0 e0
  have N0 : Fr Z.heap.size [] := Fr.nil _
  refine Go.aloadN (pc' := 1) C X0 d5_0 rfl rfl rfl ?_
  refine Go.iloadN (pc' := 2) C X0 d5_1 rfl rfl ?_
  refine Go.lloadN (pc' := 3) C X0 d5_2 rfl rfl ?_
  refine Go.iconst (z := (0 : Int32)) (pc' := 4) C X0 d5_3 rfl rfl ?_
  refine Go.iload (pc' := 6) C X0 d5_4 rfl rfl ?_
  refine Go.callS (y := mN2) (pc' := 9) C X0 (tw hw 22 rfl) (tw hw 23 rfl) (by decide) (rm_enc l Z a0 hw w ((0 : Int32)) y h0 O0 ) (tw hw 24 rfl) (tw hw 4 rfl) e0 (argsL := [(.long w), (.int (0 : Int32)), (.int y)]) (rest := [(.int (0 : Int32)), (.ref a)]) (W := 2) rfl rfl pd_16 rfl (Nat.le_of_eq rfl) rfl (by decide) (by decide) (by decide) (by decide) d5_6 rfl ?_
  intro T101 v101 L101 X101 q101
  obtain ⟨rfl, rfl, e101⟩ := q101
  have N101 := Fr.app N0 (Fr.nil _)
  refine Go.stC (i := 0) (x' := (chI w (0 : Int32) y)) (vs' := [(.int (chI w (0 : Int32) y)), (.int x1), (.int x2), (.int x3), (.int x4), (.int x5), (.int x6), (.int x7)]) (pc' := 10) C X101 e101 A0 (by decide) (by decide) (by simp) (narcr (chI_r _ _ _)) rfl d5_9 rfl ?_
  intro T102 h102 X102 e102 W102 A102
  have N102 := Fr.snoc X102 N101 hn
  refine Go.aloadN (pc' := 11) C X102 d5_10 rfl rfl rfl ?_
  refine Go.iloadN (pc' := 12) C X102 d5_11 rfl rfl ?_
  refine Go.iconst (z := (1 : Int32)) (pc' := 13) C X102 d5_12 rfl rfl ?_
  refine Go.iadd (pc' := 14) C X102 d5_13 rfl ?_
  rw [show ((0 : Int32) + (1 : Int32)) = (1 : Int32) from by decide]
  refine Go.lloadN (pc' := 15) C X102 d5_14 rfl rfl ?_
  refine Go.iconst (z := (1 : Int32)) (pc' := 16) C X102 d5_15 rfl rfl ?_
  refine Go.iload (pc' := 18) C X102 d5_16 rfl rfl ?_
  have O104 : Ext Z.heap h102 := (Ext.wr O0 W102 hn)
  refine Go.callS (y := mN2) (pc' := 21) C X102 (tw hw 22 rfl) (tw hw 23 rfl) (by decide) (rm_enc l Z a0 hw w ((1 : Int32)) y h102 O104 ) (tw hw 24 rfl) (tw hw 4 rfl) e102 (argsL := [(.long w), (.int (1 : Int32)), (.int y)]) (rest := [(.int (1 : Int32)), (.ref a)]) (W := 2) rfl rfl pd_16 rfl (Nat.le_of_eq rfl) rfl (by decide) (by decide) (by decide) (by decide) d5_18 rfl ?_
  intro T103 v103 L103 X103 q103
  obtain ⟨rfl, rfl, e103⟩ := q103
  have N103 := Fr.app N102 (Fr.nil _)
  refine Go.stC (i := 1) (x' := (chI w (1 : Int32) y)) (vs' := [(.int (chI w (0 : Int32) y)), (.int (chI w (1 : Int32) y)), (.int x2), (.int x3), (.int x4), (.int x5), (.int x6), (.int x7)]) (pc' := 22) C X103 e103 A102 (by decide) (by decide) (by simp) (narcr (chI_r _ _ _)) rfl d5_21 rfl ?_
  intro T105 h105 X105 e105 W105 A105
  have N105 := Fr.snoc X105 N103 hn
  refine Go.aloadN (pc' := 23) C X105 d5_22 rfl rfl rfl ?_
  refine Go.iloadN (pc' := 24) C X105 d5_23 rfl rfl ?_
  refine Go.iconst (z := (2 : Int32)) (pc' := 25) C X105 d5_24 rfl rfl ?_
  refine Go.iadd (pc' := 26) C X105 d5_25 rfl ?_
  rw [show ((0 : Int32) + (2 : Int32)) = (2 : Int32) from by decide]
  refine Go.lloadN (pc' := 27) C X105 d5_26 rfl rfl ?_
  refine Go.iconst (z := (2 : Int32)) (pc' := 28) C X105 d5_27 rfl rfl ?_
  refine Go.iload (pc' := 30) C X105 d5_28 rfl rfl ?_
  have O107 : Ext Z.heap h105 := (Ext.wr O104 W105 hn)
  refine Go.callS (y := mN2) (pc' := 33) C X105 (tw hw 22 rfl) (tw hw 23 rfl) (by decide) (rm_enc l Z a0 hw w ((2 : Int32)) y h105 O107 ) (tw hw 24 rfl) (tw hw 4 rfl) e105 (argsL := [(.long w), (.int (2 : Int32)), (.int y)]) (rest := [(.int (2 : Int32)), (.ref a)]) (W := 2) rfl rfl pd_16 rfl (Nat.le_of_eq rfl) rfl (by decide) (by decide) (by decide) (by decide) d5_30 rfl ?_
  intro T106 v106 L106 X106 q106
  obtain ⟨rfl, rfl, e106⟩ := q106
  have N106 := Fr.app N105 (Fr.nil _)
  refine Go.stC (i := 2) (x' := (chI w (2 : Int32) y)) (vs' := [(.int (chI w (0 : Int32) y)), (.int (chI w (1 : Int32) y)), (.int (chI w (2 : Int32) y)), (.int x3), (.int x4), (.int x5), (.int x6), (.int x7)]) (pc' := 34) C X106 e106 A105 (by decide) (by decide) (by simp) (narcr (chI_r _ _ _)) rfl d5_33 rfl ?_
  intro T108 h108 X108 e108 W108 A108
  have N108 := Fr.snoc X108 N106 hn
  refine Go.aloadN (pc' := 35) C X108 d5_34 rfl rfl rfl ?_
  refine Go.iloadN (pc' := 36) C X108 d5_35 rfl rfl ?_
  refine Go.iconst (z := (3 : Int32)) (pc' := 37) C X108 d5_36 rfl rfl ?_
  refine Go.iadd (pc' := 38) C X108 d5_37 rfl ?_
  rw [show ((0 : Int32) + (3 : Int32)) = (3 : Int32) from by decide]
  refine Go.lloadN (pc' := 39) C X108 d5_38 rfl rfl ?_
  refine Go.iconst (z := (3 : Int32)) (pc' := 40) C X108 d5_39 rfl rfl ?_
  refine Go.iload (pc' := 42) C X108 d5_40 rfl rfl ?_
  have O110 : Ext Z.heap h108 := (Ext.wr O107 W108 hn)
  refine Go.callS (y := mN2) (pc' := 45) C X108 (tw hw 22 rfl) (tw hw 23 rfl) (by decide) (rm_enc l Z a0 hw w ((3 : Int32)) y h108 O110 ) (tw hw 24 rfl) (tw hw 4 rfl) e108 (argsL := [(.long w), (.int (3 : Int32)), (.int y)]) (rest := [(.int (3 : Int32)), (.ref a)]) (W := 2) rfl rfl pd_16 rfl (Nat.le_of_eq rfl) rfl (by decide) (by decide) (by decide) (by decide) d5_42 rfl ?_
  intro T109 v109 L109 X109 q109
  obtain ⟨rfl, rfl, e109⟩ := q109
  have N109 := Fr.app N108 (Fr.nil _)
  refine Go.stC (i := 3) (x' := (chI w (3 : Int32) y)) (vs' := [(.int (chI w (0 : Int32) y)), (.int (chI w (1 : Int32) y)), (.int (chI w (2 : Int32) y)), (.int (chI w (3 : Int32) y)), (.int x4), (.int x5), (.int x6), (.int x7)]) (pc' := 46) C X109 e109 A108 (by decide) (by decide) (by simp) (narcr (chI_r _ _ _)) rfl d5_45 rfl ?_
  intro T111 h111 X111 e111 W111 A111
  have N111 := Fr.snoc X111 N109 hn
  refine Go.aloadN (pc' := 47) C X111 d5_46 rfl rfl rfl ?_
  refine Go.iloadN (pc' := 48) C X111 d5_47 rfl rfl ?_
  refine Go.iconst (z := (4 : Int32)) (pc' := 49) C X111 d5_48 rfl rfl ?_
  refine Go.iadd (pc' := 50) C X111 d5_49 rfl ?_
  rw [show ((0 : Int32) + (4 : Int32)) = (4 : Int32) from by decide]
  refine Go.lloadN (pc' := 51) C X111 d5_50 rfl rfl ?_
  refine Go.iconst (z := (4 : Int32)) (pc' := 52) C X111 d5_51 rfl rfl ?_
  refine Go.iload (pc' := 54) C X111 d5_52 rfl rfl ?_
  have O113 : Ext Z.heap h111 := (Ext.wr O110 W111 hn)
  refine Go.callS (y := mN2) (pc' := 57) C X111 (tw hw 22 rfl) (tw hw 23 rfl) (by decide) (rm_enc l Z a0 hw w ((4 : Int32)) y h111 O113 ) (tw hw 24 rfl) (tw hw 4 rfl) e111 (argsL := [(.long w), (.int (4 : Int32)), (.int y)]) (rest := [(.int (4 : Int32)), (.ref a)]) (W := 2) rfl rfl pd_16 rfl (Nat.le_of_eq rfl) rfl (by decide) (by decide) (by decide) (by decide) d5_54 rfl ?_
  intro T112 v112 L112 X112 q112
  obtain ⟨rfl, rfl, e112⟩ := q112
  have N112 := Fr.app N111 (Fr.nil _)
  refine Go.stC (i := 4) (x' := (chI w (4 : Int32) y)) (vs' := [(.int (chI w (0 : Int32) y)), (.int (chI w (1 : Int32) y)), (.int (chI w (2 : Int32) y)), (.int (chI w (3 : Int32) y)), (.int (chI w (4 : Int32) y)), (.int x5), (.int x6), (.int x7)]) (pc' := 58) C X112 e112 A111 (by decide) (by decide) (by simp) (narcr (chI_r _ _ _)) rfl d5_57 rfl ?_
  intro T114 h114 X114 e114 W114 A114
  have N114 := Fr.snoc X114 N112 hn
  refine Go.aloadN (pc' := 59) C X114 d5_58 rfl rfl rfl ?_
  refine Go.iloadN (pc' := 60) C X114 d5_59 rfl rfl ?_
  refine Go.iconst (z := (5 : Int32)) (pc' := 61) C X114 d5_60 rfl rfl ?_
  refine Go.iadd (pc' := 62) C X114 d5_61 rfl ?_
  rw [show ((0 : Int32) + (5 : Int32)) = (5 : Int32) from by decide]
  refine Go.lloadN (pc' := 63) C X114 d5_62 rfl rfl ?_
  refine Go.iconst (z := (5 : Int32)) (pc' := 64) C X114 d5_63 rfl rfl ?_
  refine Go.iload (pc' := 66) C X114 d5_64 rfl rfl ?_
  have O116 : Ext Z.heap h114 := (Ext.wr O113 W114 hn)
  refine Go.callS (y := mN2) (pc' := 69) C X114 (tw hw 22 rfl) (tw hw 23 rfl) (by decide) (rm_enc l Z a0 hw w ((5 : Int32)) y h114 O116 ) (tw hw 24 rfl) (tw hw 4 rfl) e114 (argsL := [(.long w), (.int (5 : Int32)), (.int y)]) (rest := [(.int (5 : Int32)), (.ref a)]) (W := 2) rfl rfl pd_16 rfl (Nat.le_of_eq rfl) rfl (by decide) (by decide) (by decide) (by decide) d5_66 rfl ?_
  intro T115 v115 L115 X115 q115
  obtain ⟨rfl, rfl, e115⟩ := q115
  have N115 := Fr.app N114 (Fr.nil _)
  refine Go.stC (i := 5) (x' := (chI w (5 : Int32) y)) (vs' := [(.int (chI w (0 : Int32) y)), (.int (chI w (1 : Int32) y)), (.int (chI w (2 : Int32) y)), (.int (chI w (3 : Int32) y)), (.int (chI w (4 : Int32) y)), (.int (chI w (5 : Int32) y)), (.int x6), (.int x7)]) (pc' := 70) C X115 e115 A114 (by decide) (by decide) (by simp) (narcr (chI_r _ _ _)) rfl d5_69 rfl ?_
  intro T117 h117 X117 e117 W117 A117
  have N117 := Fr.snoc X117 N115 hn
  refine Go.aloadN (pc' := 71) C X117 d5_70 rfl rfl rfl ?_
  refine Go.iloadN (pc' := 72) C X117 d5_71 rfl rfl ?_
  refine Go.bipush (z := (6 : Int32)) (pc' := 74) C X117 d5_72 rfl rfl ?_
  refine Go.iadd (pc' := 75) C X117 d5_74 rfl ?_
  rw [show ((0 : Int32) + (6 : Int32)) = (6 : Int32) from by decide]
  refine Go.lloadN (pc' := 76) C X117 d5_75 rfl rfl ?_
  refine Go.bipush (z := (6 : Int32)) (pc' := 78) C X117 d5_76 rfl rfl ?_
  refine Go.iload (pc' := 80) C X117 d5_78 rfl rfl ?_
  have O119 : Ext Z.heap h117 := (Ext.wr O116 W117 hn)
  refine Go.callS (y := mN2) (pc' := 83) C X117 (tw hw 22 rfl) (tw hw 23 rfl) (by decide) (rm_enc l Z a0 hw w ((6 : Int32)) y h117 O119 ) (tw hw 24 rfl) (tw hw 4 rfl) e117 (argsL := [(.long w), (.int (6 : Int32)), (.int y)]) (rest := [(.int (6 : Int32)), (.ref a)]) (W := 2) rfl rfl pd_16 rfl (Nat.le_of_eq rfl) rfl (by decide) (by decide) (by decide) (by decide) d5_80 rfl ?_
  intro T118 v118 L118 X118 q118
  obtain ⟨rfl, rfl, e118⟩ := q118
  have N118 := Fr.app N117 (Fr.nil _)
  refine Go.stC (i := 6) (x' := (chI w (6 : Int32) y)) (vs' := [(.int (chI w (0 : Int32) y)), (.int (chI w (1 : Int32) y)), (.int (chI w (2 : Int32) y)), (.int (chI w (3 : Int32) y)), (.int (chI w (4 : Int32) y)), (.int (chI w (5 : Int32) y)), (.int (chI w (6 : Int32) y)), (.int x7)]) (pc' := 84) C X118 e118 A117 (by decide) (by decide) (by simp) (narcr (chI_r _ _ _)) rfl d5_83 rfl ?_
  intro T120 h120 X120 e120 W120 A120
  have N120 := Fr.snoc X120 N118 hn
  refine Go.aloadN (pc' := 85) C X120 d5_84 rfl rfl rfl ?_
  refine Go.iloadN (pc' := 86) C X120 d5_85 rfl rfl ?_
  refine Go.bipush (z := (7 : Int32)) (pc' := 88) C X120 d5_86 rfl rfl ?_
  refine Go.iadd (pc' := 89) C X120 d5_88 rfl ?_
  rw [show ((0 : Int32) + (7 : Int32)) = (7 : Int32) from by decide]
  refine Go.lloadN (pc' := 90) C X120 d5_89 rfl rfl ?_
  refine Go.bipush (z := (7 : Int32)) (pc' := 92) C X120 d5_90 rfl rfl ?_
  refine Go.iload (pc' := 94) C X120 d5_92 rfl rfl ?_
  have O122 : Ext Z.heap h120 := (Ext.wr O119 W120 hn)
  refine Go.callS (y := mN2) (pc' := 97) C X120 (tw hw 22 rfl) (tw hw 23 rfl) (by decide) (rm_enc l Z a0 hw w ((7 : Int32)) y h120 O122 ) (tw hw 24 rfl) (tw hw 4 rfl) e120 (argsL := [(.long w), (.int (7 : Int32)), (.int y)]) (rest := [(.int (7 : Int32)), (.ref a)]) (W := 2) rfl rfl pd_16 rfl (Nat.le_of_eq rfl) rfl (by decide) (by decide) (by decide) (by decide) d5_94 rfl ?_
  intro T121 v121 L121 X121 q121
  obtain ⟨rfl, rfl, e121⟩ := q121
  have N121 := Fr.app N120 (Fr.nil _)
  refine Go.stC (i := 7) (x' := (chI w (7 : Int32) y)) (vs' := [(.int (chI w (0 : Int32) y)), (.int (chI w (1 : Int32) y)), (.int (chI w (2 : Int32) y)), (.int (chI w (3 : Int32) y)), (.int (chI w (4 : Int32) y)), (.int (chI w (5 : Int32) y)), (.int (chI w (6 : Int32) y)), (.int (chI w (7 : Int32) y))]) (pc' := 98) C X121 e121 A120 (by decide) (by decide) (by simp) (narcr (chI_r _ _ _)) rfl d5_97 rfl ?_
  intro T123 h123 X123 e123 W123 A123
  have N123 := Fr.snoc X123 N121 hn
  have K124 : Keep h0 h123 [a] := (((((((((Keep.refl h0 [a]).wr W102 (Or.inl (by simp))).wr W105 (Or.inl (by simp))).wr W108 (Or.inl (by simp))).wr W111 (Or.inl (by simp))).wr W114 (Or.inl (by simp))).wr W117 (Or.inl (by simp))).wr W120 (Or.inl (by simp))).wr W123 (Or.inl (by simp)))
  exact Go.retV C X123 rfl d5_98 (by rw [e123]; exact ⟨rfl, N123, K124, A123⟩) (by decide) (by decide)
def Q_f16a (Z : State) (a : Addr) (ka : ClassId) (w : Int64) (y : Int32) (x0 : Int32) (x1 : Int32) (x2 : Int32) (x3 : Int32) (x4 : Int32) (x5 : Int32) (x6 : Int32) (x7 : Int32) (x8 : Int32) (x9 : Int32) (x10 : Int32) (x11 : Int32) (x12 : Int32) (x13 : Int32) (x14 : Int32) (x15 : Int32) (h0 : Heap) (rv : Option Value) (h : Heap) (L : List Loc) : Prop := rv = none ∧ Fr Z.heap.size L ∧ Keep h0 h [a] ∧ AL Z h a ka .char [(.int (chI w (0 : Int32) y)), (.int (chI w (1 : Int32) y)), (.int (chI w (2 : Int32) y)), (.int (chI w (3 : Int32) y)), (.int (chI w (4 : Int32) y)), (.int (chI w (5 : Int32) y)), (.int (chI w (6 : Int32) y)), (.int (chI w (7 : Int32) y)), (.int x8), (.int x9), (.int x10), (.int x11), (.int x12), (.int x13), (.int x14), (.int x15)]
theorem rm_f16a (l : Launch) (Z : State) (a0 : Array Value) (hw : ∀ d ∈ tables_1, d.before a0 Z = true) (a : Addr) (ka : ClassId) (w : Int64) (y : Int32) (x0 : Int32) (x1 : Int32) (x2 : Int32) (x3 : Int32) (x4 : Int32) (x5 : Int32) (x6 : Int32) (x7 : Int32) (x8 : Int32) (x9 : Int32) (x10 : Int32) (x11 : Int32) (x12 : Int32) (x13 : Int32) (x14 : Int32) (x15 : Int32) (h0 : Heap) (O0 : Ext Z.heap h0) (A0 : AL Z h0 a ka .char [(.int x0), (.int x1), (.int x2), (.int x3), (.int x4), (.int x5), (.int x6), (.int x7), (.int x8), (.int x9), (.int x10), (.int x11), (.int x12), (.int x13), (.int x14), (.int x15)]) (hn : Z.heap.size ≤ a) :
    Met1 l Z mN3 method_8_code 5 none ({ frames := 2, cells := 0, slots := 0, locals := 30 } : Room) #[(.ref a), (.int (0 : Int32)), (.long w), (.int y)] h0 (Q_f16a Z a ka w y x0 x1 x2 x3 x4 x5 x6 x7 x8 x9 x10 x11 x12 x13 x14 x15 h0) := by
  refine Met1.of_body (Ls := #[.val (.ref a), .val (.int (0 : Int32)), .val (.long w), .second, .val (.int y)]) pf_5 (fun m => by first | (simp [entryFrame, mkF, argsToLocals, Value.category]; done) | rfl) ?_
  intro p e s m below meth c T0 C X0 e0
  have N0 : Fr Z.heap.size [] := Fr.nil _
  refine Go.aloadN (pc' := 1) C X0 d5_0 rfl rfl rfl ?_
  refine Go.iloadN (pc' := 2) C X0 d5_1 rfl rfl ?_
  refine Go.lloadN (pc' := 3) C X0 d5_2 rfl rfl ?_
  refine Go.iconst (z := (0 : Int32)) (pc' := 4) C X0 d5_3 rfl rfl ?_
  refine Go.iload (pc' := 6) C X0 d5_4 rfl rfl ?_
  refine Go.callS (y := mN2) (pc' := 9) C X0 (tw hw 22 rfl) (tw hw 23 rfl) (by decide) (rm_enc l Z a0 hw w ((0 : Int32)) y h0 O0 ) (tw hw 24 rfl) (tw hw 4 rfl) e0 (argsL := [(.long w), (.int (0 : Int32)), (.int y)]) (rest := [(.int (0 : Int32)), (.ref a)]) (W := 2) rfl rfl pd_16 rfl (Nat.le_of_eq rfl) rfl (by decide) (by decide) (by decide) (by decide) d5_6 rfl ?_
  intro T101 v101 L101 X101 q101
  obtain ⟨rfl, rfl, e101⟩ := q101
  have N101 := Fr.app N0 (Fr.nil _)
  refine Go.stC (i := 0) (x' := (chI w (0 : Int32) y)) (vs' := [(.int (chI w (0 : Int32) y)), (.int x1), (.int x2), (.int x3), (.int x4), (.int x5), (.int x6), (.int x7), (.int x8), (.int x9), (.int x10), (.int x11), (.int x12), (.int x13), (.int x14), (.int x15)]) (pc' := 10) C X101 e101 A0 (by decide) (by decide) (by simp) (narcr (chI_r _ _ _)) rfl d5_9 rfl ?_
  intro T102 h102 X102 e102 W102 A102
  have N102 := Fr.snoc X102 N101 hn
  refine Go.aloadN (pc' := 11) C X102 d5_10 rfl rfl rfl ?_
  refine Go.iloadN (pc' := 12) C X102 d5_11 rfl rfl ?_
  refine Go.iconst (z := (1 : Int32)) (pc' := 13) C X102 d5_12 rfl rfl ?_
  refine Go.iadd (pc' := 14) C X102 d5_13 rfl ?_
  rw [show ((0 : Int32) + (1 : Int32)) = (1 : Int32) from by decide]
  refine Go.lloadN (pc' := 15) C X102 d5_14 rfl rfl ?_
  refine Go.iconst (z := (1 : Int32)) (pc' := 16) C X102 d5_15 rfl rfl ?_
  refine Go.iload (pc' := 18) C X102 d5_16 rfl rfl ?_
  have O104 : Ext Z.heap h102 := (Ext.wr O0 W102 hn)
  refine Go.callS (y := mN2) (pc' := 21) C X102 (tw hw 22 rfl) (tw hw 23 rfl) (by decide) (rm_enc l Z a0 hw w ((1 : Int32)) y h102 O104 ) (tw hw 24 rfl) (tw hw 4 rfl) e102 (argsL := [(.long w), (.int (1 : Int32)), (.int y)]) (rest := [(.int (1 : Int32)), (.ref a)]) (W := 2) rfl rfl pd_16 rfl (Nat.le_of_eq rfl) rfl (by decide) (by decide) (by decide) (by decide) d5_18 rfl ?_
  intro T103 v103 L103 X103 q103
  obtain ⟨rfl, rfl, e103⟩ := q103
  have N103 := Fr.app N102 (Fr.nil _)
  refine Go.stC (i := 1) (x' := (chI w (1 : Int32) y)) (vs' := [(.int (chI w (0 : Int32) y)), (.int (chI w (1 : Int32) y)), (.int x2), (.int x3), (.int x4), (.int x5), (.int x6), (.int x7), (.int x8), (.int x9), (.int x10), (.int x11), (.int x12), (.int x13), (.int x14), (.int x15)]) (pc' := 22) C X103 e103 A102 (by decide) (by decide) (by simp) (narcr (chI_r _ _ _)) rfl d5_21 rfl ?_
  intro T105 h105 X105 e105 W105 A105
  have N105 := Fr.snoc X105 N103 hn
  refine Go.aloadN (pc' := 23) C X105 d5_22 rfl rfl rfl ?_
  refine Go.iloadN (pc' := 24) C X105 d5_23 rfl rfl ?_
  refine Go.iconst (z := (2 : Int32)) (pc' := 25) C X105 d5_24 rfl rfl ?_
  refine Go.iadd (pc' := 26) C X105 d5_25 rfl ?_
  rw [show ((0 : Int32) + (2 : Int32)) = (2 : Int32) from by decide]
  refine Go.lloadN (pc' := 27) C X105 d5_26 rfl rfl ?_
  refine Go.iconst (z := (2 : Int32)) (pc' := 28) C X105 d5_27 rfl rfl ?_
  refine Go.iload (pc' := 30) C X105 d5_28 rfl rfl ?_
  have O107 : Ext Z.heap h105 := (Ext.wr O104 W105 hn)
  refine Go.callS (y := mN2) (pc' := 33) C X105 (tw hw 22 rfl) (tw hw 23 rfl) (by decide) (rm_enc l Z a0 hw w ((2 : Int32)) y h105 O107 ) (tw hw 24 rfl) (tw hw 4 rfl) e105 (argsL := [(.long w), (.int (2 : Int32)), (.int y)]) (rest := [(.int (2 : Int32)), (.ref a)]) (W := 2) rfl rfl pd_16 rfl (Nat.le_of_eq rfl) rfl (by decide) (by decide) (by decide) (by decide) d5_30 rfl ?_
  intro T106 v106 L106 X106 q106
  obtain ⟨rfl, rfl, e106⟩ := q106
  have N106 := Fr.app N105 (Fr.nil _)
  refine Go.stC (i := 2) (x' := (chI w (2 : Int32) y)) (vs' := [(.int (chI w (0 : Int32) y)), (.int (chI w (1 : Int32) y)), (.int (chI w (2 : Int32) y)), (.int x3), (.int x4), (.int x5), (.int x6), (.int x7), (.int x8), (.int x9), (.int x10), (.int x11), (.int x12), (.int x13), (.int x14), (.int x15)]) (pc' := 34) C X106 e106 A105 (by decide) (by decide) (by simp) (narcr (chI_r _ _ _)) rfl d5_33 rfl ?_
  intro T108 h108 X108 e108 W108 A108
  have N108 := Fr.snoc X108 N106 hn
  refine Go.aloadN (pc' := 35) C X108 d5_34 rfl rfl rfl ?_
  refine Go.iloadN (pc' := 36) C X108 d5_35 rfl rfl ?_
  refine Go.iconst (z := (3 : Int32)) (pc' := 37) C X108 d5_36 rfl rfl ?_
  refine Go.iadd (pc' := 38) C X108 d5_37 rfl ?_
  rw [show ((0 : Int32) + (3 : Int32)) = (3 : Int32) from by decide]
  refine Go.lloadN (pc' := 39) C X108 d5_38 rfl rfl ?_
  refine Go.iconst (z := (3 : Int32)) (pc' := 40) C X108 d5_39 rfl rfl ?_
  refine Go.iload (pc' := 42) C X108 d5_40 rfl rfl ?_
  have O110 : Ext Z.heap h108 := (Ext.wr O107 W108 hn)
  refine Go.callS (y := mN2) (pc' := 45) C X108 (tw hw 22 rfl) (tw hw 23 rfl) (by decide) (rm_enc l Z a0 hw w ((3 : Int32)) y h108 O110 ) (tw hw 24 rfl) (tw hw 4 rfl) e108 (argsL := [(.long w), (.int (3 : Int32)), (.int y)]) (rest := [(.int (3 : Int32)), (.ref a)]) (W := 2) rfl rfl pd_16 rfl (Nat.le_of_eq rfl) rfl (by decide) (by decide) (by decide) (by decide) d5_42 rfl ?_
  intro T109 v109 L109 X109 q109
  obtain ⟨rfl, rfl, e109⟩ := q109
  have N109 := Fr.app N108 (Fr.nil _)
  refine Go.stC (i := 3) (x' := (chI w (3 : Int32) y)) (vs' := [(.int (chI w (0 : Int32) y)), (.int (chI w (1 : Int32) y)), (.int (chI w (2 : Int32) y)), (.int (chI w (3 : Int32) y)), (.int x4), (.int x5), (.int x6), (.int x7), (.int x8), (.int x9), (.int x10), (.int x11), (.int x12), (.int x13), (.int x14), (.int x15)]) (pc' := 46) C X109 e109 A108 (by decide) (by decide) (by simp) (narcr (chI_r _ _ _)) rfl d5_45 rfl ?_
  intro T111 h111 X111 e111 W111 A111
  have N111 := Fr.snoc X111 N109 hn
  refine Go.aloadN (pc' := 47) C X111 d5_46 rfl rfl rfl ?_
  refine Go.iloadN (pc' := 48) C X111 d5_47 rfl rfl ?_
  refine Go.iconst (z := (4 : Int32)) (pc' := 49) C X111 d5_48 rfl rfl ?_
  refine Go.iadd (pc' := 50) C X111 d5_49 rfl ?_
  rw [show ((0 : Int32) + (4 : Int32)) = (4 : Int32) from by decide]
  refine Go.lloadN (pc' := 51) C X111 d5_50 rfl rfl ?_
  refine Go.iconst (z := (4 : Int32)) (pc' := 52) C X111 d5_51 rfl rfl ?_
  refine Go.iload (pc' := 54) C X111 d5_52 rfl rfl ?_
  have O113 : Ext Z.heap h111 := (Ext.wr O110 W111 hn)
  refine Go.callS (y := mN2) (pc' := 57) C X111 (tw hw 22 rfl) (tw hw 23 rfl) (by decide) (rm_enc l Z a0 hw w ((4 : Int32)) y h111 O113 ) (tw hw 24 rfl) (tw hw 4 rfl) e111 (argsL := [(.long w), (.int (4 : Int32)), (.int y)]) (rest := [(.int (4 : Int32)), (.ref a)]) (W := 2) rfl rfl pd_16 rfl (Nat.le_of_eq rfl) rfl (by decide) (by decide) (by decide) (by decide) d5_54 rfl ?_
  intro T112 v112 L112 X112 q112
  obtain ⟨rfl, rfl, e112⟩ := q112
  have N112 := Fr.app N111 (Fr.nil _)
  refine Go.stC (i := 4) (x' := (chI w (4 : Int32) y)) (vs' := [(.int (chI w (0 : Int32) y)), (.int (chI w (1 : Int32) y)), (.int (chI w (2 : Int32) y)), (.int (chI w (3 : Int32) y)), (.int (chI w (4 : Int32) y)), (.int x5), (.int x6), (.int x7), (.int x8), (.int x9), (.int x10), (.int x11), (.int x12), (.int x13), (.int x14), (.int x15)]) (pc' := 58) C X112 e112 A111 (by decide) (by decide) (by simp) (narcr (chI_r _ _ _)) rfl d5_57 rfl ?_
  intro T114 h114 X114 e114 W114 A114
  have N114 := Fr.snoc X114 N112 hn
  refine Go.aloadN (pc' := 59) C X114 d5_58 rfl rfl rfl ?_
  refine Go.iloadN (pc' := 60) C X114 d5_59 rfl rfl ?_
  refine Go.iconst (z := (5 : Int32)) (pc' := 61) C X114 d5_60 rfl rfl ?_
  refine Go.iadd (pc' := 62) C X114 d5_61 rfl ?_
  rw [show ((0 : Int32) + (5 : Int32)) = (5 : Int32) from by decide]
  refine Go.lloadN (pc' := 63) C X114 d5_62 rfl rfl ?_
  refine Go.iconst (z := (5 : Int32)) (pc' := 64) C X114 d5_63 rfl rfl ?_
  refine Go.iload (pc' := 66) C X114 d5_64 rfl rfl ?_
  have O116 : Ext Z.heap h114 := (Ext.wr O113 W114 hn)
  refine Go.callS (y := mN2) (pc' := 69) C X114 (tw hw 22 rfl) (tw hw 23 rfl) (by decide) (rm_enc l Z a0 hw w ((5 : Int32)) y h114 O116 ) (tw hw 24 rfl) (tw hw 4 rfl) e114 (argsL := [(.long w), (.int (5 : Int32)), (.int y)]) (rest := [(.int (5 : Int32)), (.ref a)]) (W := 2) rfl rfl pd_16 rfl (Nat.le_of_eq rfl) rfl (by decide) (by decide) (by decide) (by decide) d5_66 rfl ?_
  intro T115 v115 L115 X115 q115
  obtain ⟨rfl, rfl, e115⟩ := q115
  have N115 := Fr.app N114 (Fr.nil _)
  refine Go.stC (i := 5) (x' := (chI w (5 : Int32) y)) (vs' := [(.int (chI w (0 : Int32) y)), (.int (chI w (1 : Int32) y)), (.int (chI w (2 : Int32) y)), (.int (chI w (3 : Int32) y)), (.int (chI w (4 : Int32) y)), (.int (chI w (5 : Int32) y)), (.int x6), (.int x7), (.int x8), (.int x9), (.int x10), (.int x11), (.int x12), (.int x13), (.int x14), (.int x15)]) (pc' := 70) C X115 e115 A114 (by decide) (by decide) (by simp) (narcr (chI_r _ _ _)) rfl d5_69 rfl ?_
  intro T117 h117 X117 e117 W117 A117
  have N117 := Fr.snoc X117 N115 hn
  refine Go.aloadN (pc' := 71) C X117 d5_70 rfl rfl rfl ?_
  refine Go.iloadN (pc' := 72) C X117 d5_71 rfl rfl ?_
  refine Go.bipush (z := (6 : Int32)) (pc' := 74) C X117 d5_72 rfl rfl ?_
  refine Go.iadd (pc' := 75) C X117 d5_74 rfl ?_
  rw [show ((0 : Int32) + (6 : Int32)) = (6 : Int32) from by decide]
  refine Go.lloadN (pc' := 76) C X117 d5_75 rfl rfl ?_
  refine Go.bipush (z := (6 : Int32)) (pc' := 78) C X117 d5_76 rfl rfl ?_
  refine Go.iload (pc' := 80) C X117 d5_78 rfl rfl ?_
  have O119 : Ext Z.heap h117 := (Ext.wr O116 W117 hn)
  refine Go.callS (y := mN2) (pc' := 83) C X117 (tw hw 22 rfl) (tw hw 23 rfl) (by decide) (rm_enc l Z a0 hw w ((6 : Int32)) y h117 O119 ) (tw hw 24 rfl) (tw hw 4 rfl) e117 (argsL := [(.long w), (.int (6 : Int32)), (.int y)]) (rest := [(.int (6 : Int32)), (.ref a)]) (W := 2) rfl rfl pd_16 rfl (Nat.le_of_eq rfl) rfl (by decide) (by decide) (by decide) (by decide) d5_80 rfl ?_
  intro T118 v118 L118 X118 q118
  obtain ⟨rfl, rfl, e118⟩ := q118
  have N118 := Fr.app N117 (Fr.nil _)
  refine Go.stC (i := 6) (x' := (chI w (6 : Int32) y)) (vs' := [(.int (chI w (0 : Int32) y)), (.int (chI w (1 : Int32) y)), (.int (chI w (2 : Int32) y)), (.int (chI w (3 : Int32) y)), (.int (chI w (4 : Int32) y)), (.int (chI w (5 : Int32) y)), (.int (chI w (6 : Int32) y)), (.int x7), (.int x8), (.int x9), (.int x10), (.int x11), (.int x12), (.int x13), (.int x14), (.int x15)]) (pc' := 84) C X118 e118 A117 (by decide) (by decide) (by simp) (narcr (chI_r _ _ _)) rfl d5_83 rfl ?_
  intro T120 h120 X120 e120 W120 A120
  have N120 := Fr.snoc X120 N118 hn
  refine Go.aloadN (pc' := 85) C X120 d5_84 rfl rfl rfl ?_
  refine Go.iloadN (pc' := 86) C X120 d5_85 rfl rfl ?_
  refine Go.bipush (z := (7 : Int32)) (pc' := 88) C X120 d5_86 rfl rfl ?_
  refine Go.iadd (pc' := 89) C X120 d5_88 rfl ?_
  rw [show ((0 : Int32) + (7 : Int32)) = (7 : Int32) from by decide]
  refine Go.lloadN (pc' := 90) C X120 d5_89 rfl rfl ?_
  refine Go.bipush (z := (7 : Int32)) (pc' := 92) C X120 d5_90 rfl rfl ?_
  refine Go.iload (pc' := 94) C X120 d5_92 rfl rfl ?_
  have O122 : Ext Z.heap h120 := (Ext.wr O119 W120 hn)
  refine Go.callS (y := mN2) (pc' := 97) C X120 (tw hw 22 rfl) (tw hw 23 rfl) (by decide) (rm_enc l Z a0 hw w ((7 : Int32)) y h120 O122 ) (tw hw 24 rfl) (tw hw 4 rfl) e120 (argsL := [(.long w), (.int (7 : Int32)), (.int y)]) (rest := [(.int (7 : Int32)), (.ref a)]) (W := 2) rfl rfl pd_16 rfl (Nat.le_of_eq rfl) rfl (by decide) (by decide) (by decide) (by decide) d5_94 rfl ?_
  intro T121 v121 L121 X121 q121
  obtain ⟨rfl, rfl, e121⟩ := q121
  have N121 := Fr.app N120 (Fr.nil _)
  refine Go.stC (i := 7) (x' := (chI w (7 : Int32) y)) (vs' := [(.int (chI w (0 : Int32) y)), (.int (chI w (1 : Int32) y)), (.int (chI w (2 : Int32) y)), (.int (chI w (3 : Int32) y)), (.int (chI w (4 : Int32) y)), (.int (chI w (5 : Int32) y)), (.int (chI w (6 : Int32) y)), (.int (chI w (7 : Int32) y)), (.int x8), (.int x9), (.int x10), (.int x11), (.int x12), (.int x13), (.int x14), (.int x15)]) (pc' := 98) C X121 e121 A120 (by decide) (by decide) (by simp) (narcr (chI_r _ _ _)) rfl d5_97 rfl ?_
  intro T123 h123 X123 e123 W123 A123
  have N123 := Fr.snoc X123 N121 hn
  have K124 : Keep h0 h123 [a] := (((((((((Keep.refl h0 [a]).wr W102 (Or.inl (by simp))).wr W105 (Or.inl (by simp))).wr W108 (Or.inl (by simp))).wr W111 (Or.inl (by simp))).wr W114 (Or.inl (by simp))).wr W117 (Or.inl (by simp))).wr W120 (Or.inl (by simp))).wr W123 (Or.inl (by simp)))
  exact Go.retV C X123 rfl d5_98 (by rw [e123]; exact ⟨rfl, N123, K124, A123⟩) (by decide) (by decide)
def Q_f16b (Z : State) (a : Addr) (ka : ClassId) (w : Int64) (y : Int32) (x0 : Int32) (x1 : Int32) (x2 : Int32) (x3 : Int32) (x4 : Int32) (x5 : Int32) (x6 : Int32) (x7 : Int32) (x8 : Int32) (x9 : Int32) (x10 : Int32) (x11 : Int32) (x12 : Int32) (x13 : Int32) (x14 : Int32) (x15 : Int32) (h0 : Heap) (rv : Option Value) (h : Heap) (L : List Loc) : Prop := rv = none ∧ Fr Z.heap.size L ∧ Keep h0 h [a] ∧ AL Z h a ka .char [(.int x0), (.int x1), (.int x2), (.int x3), (.int x4), (.int x5), (.int x6), (.int x7), (.int (chI w (0 : Int32) y)), (.int (chI w (1 : Int32) y)), (.int (chI w (2 : Int32) y)), (.int (chI w (3 : Int32) y)), (.int (chI w (4 : Int32) y)), (.int (chI w (5 : Int32) y)), (.int (chI w (6 : Int32) y)), (.int (chI w (7 : Int32) y))]
theorem rm_f16b (l : Launch) (Z : State) (a0 : Array Value) (hw : ∀ d ∈ tables_1, d.before a0 Z = true) (a : Addr) (ka : ClassId) (w : Int64) (y : Int32) (x0 : Int32) (x1 : Int32) (x2 : Int32) (x3 : Int32) (x4 : Int32) (x5 : Int32) (x6 : Int32) (x7 : Int32) (x8 : Int32) (x9 : Int32) (x10 : Int32) (x11 : Int32) (x12 : Int32) (x13 : Int32) (x14 : Int32) (x15 : Int32) (h0 : Heap) (O0 : Ext Z.heap h0) (A0 : AL Z h0 a ka .char [(.int x0), (.int x1), (.int x2), (.int x3), (.int x4), (.int x5), (.int x6), (.int x7), (.int x8), (.int x9), (.int x10), (.int x11), (.int x12), (.int x13), (.int x14), (.int x15)]) (hn : Z.heap.size ≤ a) :
    Met1 l Z mN3 method_8_code 5 none ({ frames := 2, cells := 0, slots := 0, locals := 30 } : Room) #[(.ref a), (.int (8 : Int32)), (.long w), (.int y)] h0 (Q_f16b Z a ka w y x0 x1 x2 x3 x4 x5 x6 x7 x8 x9 x10 x11 x12 x13 x14 x15 h0) := by
  refine Met1.of_body (Ls := #[.val (.ref a), .val (.int (8 : Int32)), .val (.long w), .second, .val (.int y)]) pf_5 (fun m => by first | (simp [entryFrame, mkF, argsToLocals, Value.category]; done) | rfl) ?_
  intro p e s m below meth c T0 C X0 e0
  have N0 : Fr Z.heap.size [] := Fr.nil _
  refine Go.aloadN (pc' := 1) C X0 d5_0 rfl rfl rfl ?_
  refine Go.iloadN (pc' := 2) C X0 d5_1 rfl rfl ?_
  refine Go.lloadN (pc' := 3) C X0 d5_2 rfl rfl ?_
  refine Go.iconst (z := (0 : Int32)) (pc' := 4) C X0 d5_3 rfl rfl ?_
  refine Go.iload (pc' := 6) C X0 d5_4 rfl rfl ?_
  refine Go.callS (y := mN2) (pc' := 9) C X0 (tw hw 22 rfl) (tw hw 23 rfl) (by decide) (rm_enc l Z a0 hw w ((0 : Int32)) y h0 O0 ) (tw hw 24 rfl) (tw hw 4 rfl) e0 (argsL := [(.long w), (.int (0 : Int32)), (.int y)]) (rest := [(.int (8 : Int32)), (.ref a)]) (W := 2) rfl rfl pd_16 rfl (Nat.le_of_eq rfl) rfl (by decide) (by decide) (by decide) (by decide) d5_6 rfl ?_
  intro T101 v101 L101 X101 q101
  obtain ⟨rfl, rfl, e101⟩ := q101
  have N101 := Fr.app N0 (Fr.nil _)
  refine Go.stC (i := 8) (x' := (chI w (0 : Int32) y)) (vs' := [(.int x0), (.int x1), (.int x2), (.int x3), (.int x4), (.int x5), (.int x6), (.int x7), (.int (chI w (0 : Int32) y)), (.int x9), (.int x10), (.int x11), (.int x12), (.int x13), (.int x14), (.int x15)]) (pc' := 10) C X101 e101 A0 (by decide) (by decide) (by simp) (narcr (chI_r _ _ _)) rfl d5_9 rfl ?_
  intro T102 h102 X102 e102 W102 A102
  have N102 := Fr.snoc X102 N101 hn
  refine Go.aloadN (pc' := 11) C X102 d5_10 rfl rfl rfl ?_
  refine Go.iloadN (pc' := 12) C X102 d5_11 rfl rfl ?_
  refine Go.iconst (z := (1 : Int32)) (pc' := 13) C X102 d5_12 rfl rfl ?_
  refine Go.iadd (pc' := 14) C X102 d5_13 rfl ?_
  rw [show ((8 : Int32) + (1 : Int32)) = (9 : Int32) from by decide]
  refine Go.lloadN (pc' := 15) C X102 d5_14 rfl rfl ?_
  refine Go.iconst (z := (1 : Int32)) (pc' := 16) C X102 d5_15 rfl rfl ?_
  refine Go.iload (pc' := 18) C X102 d5_16 rfl rfl ?_
  have O104 : Ext Z.heap h102 := (Ext.wr O0 W102 hn)
  refine Go.callS (y := mN2) (pc' := 21) C X102 (tw hw 22 rfl) (tw hw 23 rfl) (by decide) (rm_enc l Z a0 hw w ((1 : Int32)) y h102 O104 ) (tw hw 24 rfl) (tw hw 4 rfl) e102 (argsL := [(.long w), (.int (1 : Int32)), (.int y)]) (rest := [(.int (9 : Int32)), (.ref a)]) (W := 2) rfl rfl pd_16 rfl (Nat.le_of_eq rfl) rfl (by decide) (by decide) (by decide) (by decide) d5_18 rfl ?_
  intro T103 v103 L103 X103 q103
  obtain ⟨rfl, rfl, e103⟩ := q103
  have N103 := Fr.app N102 (Fr.nil _)
  refine Go.stC (i := 9) (x' := (chI w (1 : Int32) y)) (vs' := [(.int x0), (.int x1), (.int x2), (.int x3), (.int x4), (.int x5), (.int x6), (.int x7), (.int (chI w (0 : Int32) y)), (.int (chI w (1 : Int32) y)), (.int x10), (.int x11), (.int x12), (.int x13), (.int x14), (.int x15)]) (pc' := 22) C X103 e103 A102 (by decide) (by decide) (by simp) (narcr (chI_r _ _ _)) rfl d5_21 rfl ?_
  intro T105 h105 X105 e105 W105 A105
  have N105 := Fr.snoc X105 N103 hn
  refine Go.aloadN (pc' := 23) C X105 d5_22 rfl rfl rfl ?_
  refine Go.iloadN (pc' := 24) C X105 d5_23 rfl rfl ?_
  refine Go.iconst (z := (2 : Int32)) (pc' := 25) C X105 d5_24 rfl rfl ?_
  refine Go.iadd (pc' := 26) C X105 d5_25 rfl ?_
  rw [show ((8 : Int32) + (2 : Int32)) = (10 : Int32) from by decide]
  refine Go.lloadN (pc' := 27) C X105 d5_26 rfl rfl ?_
  refine Go.iconst (z := (2 : Int32)) (pc' := 28) C X105 d5_27 rfl rfl ?_
  refine Go.iload (pc' := 30) C X105 d5_28 rfl rfl ?_
  have O107 : Ext Z.heap h105 := (Ext.wr O104 W105 hn)
  refine Go.callS (y := mN2) (pc' := 33) C X105 (tw hw 22 rfl) (tw hw 23 rfl) (by decide) (rm_enc l Z a0 hw w ((2 : Int32)) y h105 O107 ) (tw hw 24 rfl) (tw hw 4 rfl) e105 (argsL := [(.long w), (.int (2 : Int32)), (.int y)]) (rest := [(.int (10 : Int32)), (.ref a)]) (W := 2) rfl rfl pd_16 rfl (Nat.le_of_eq rfl) rfl (by decide) (by decide) (by decide) (by decide) d5_30 rfl ?_
  intro T106 v106 L106 X106 q106
  obtain ⟨rfl, rfl, e106⟩ := q106
  have N106 := Fr.app N105 (Fr.nil _)
  refine Go.stC (i := 10) (x' := (chI w (2 : Int32) y)) (vs' := [(.int x0), (.int x1), (.int x2), (.int x3), (.int x4), (.int x5), (.int x6), (.int x7), (.int (chI w (0 : Int32) y)), (.int (chI w (1 : Int32) y)), (.int (chI w (2 : Int32) y)), (.int x11), (.int x12), (.int x13), (.int x14), (.int x15)]) (pc' := 34) C X106 e106 A105 (by decide) (by decide) (by simp) (narcr (chI_r _ _ _)) rfl d5_33 rfl ?_
  intro T108 h108 X108 e108 W108 A108
  have N108 := Fr.snoc X108 N106 hn
  refine Go.aloadN (pc' := 35) C X108 d5_34 rfl rfl rfl ?_
  refine Go.iloadN (pc' := 36) C X108 d5_35 rfl rfl ?_
  refine Go.iconst (z := (3 : Int32)) (pc' := 37) C X108 d5_36 rfl rfl ?_
  refine Go.iadd (pc' := 38) C X108 d5_37 rfl ?_
  rw [show ((8 : Int32) + (3 : Int32)) = (11 : Int32) from by decide]
  refine Go.lloadN (pc' := 39) C X108 d5_38 rfl rfl ?_
  refine Go.iconst (z := (3 : Int32)) (pc' := 40) C X108 d5_39 rfl rfl ?_
  refine Go.iload (pc' := 42) C X108 d5_40 rfl rfl ?_
  have O110 : Ext Z.heap h108 := (Ext.wr O107 W108 hn)
  refine Go.callS (y := mN2) (pc' := 45) C X108 (tw hw 22 rfl) (tw hw 23 rfl) (by decide) (rm_enc l Z a0 hw w ((3 : Int32)) y h108 O110 ) (tw hw 24 rfl) (tw hw 4 rfl) e108 (argsL := [(.long w), (.int (3 : Int32)), (.int y)]) (rest := [(.int (11 : Int32)), (.ref a)]) (W := 2) rfl rfl pd_16 rfl (Nat.le_of_eq rfl) rfl (by decide) (by decide) (by decide) (by decide) d5_42 rfl ?_
  intro T109 v109 L109 X109 q109
  obtain ⟨rfl, rfl, e109⟩ := q109
  have N109 := Fr.app N108 (Fr.nil _)
  refine Go.stC (i := 11) (x' := (chI w (3 : Int32) y)) (vs' := [(.int x0), (.int x1), (.int x2), (.int x3), (.int x4), (.int x5), (.int x6), (.int x7), (.int (chI w (0 : Int32) y)), (.int (chI w (1 : Int32) y)), (.int (chI w (2 : Int32) y)), (.int (chI w (3 : Int32) y)), (.int x12), (.int x13), (.int x14), (.int x15)]) (pc' := 46) C X109 e109 A108 (by decide) (by decide) (by simp) (narcr (chI_r _ _ _)) rfl d5_45 rfl ?_
  intro T111 h111 X111 e111 W111 A111
  have N111 := Fr.snoc X111 N109 hn
  refine Go.aloadN (pc' := 47) C X111 d5_46 rfl rfl rfl ?_
  refine Go.iloadN (pc' := 48) C X111 d5_47 rfl rfl ?_
  refine Go.iconst (z := (4 : Int32)) (pc' := 49) C X111 d5_48 rfl rfl ?_
  refine Go.iadd (pc' := 50) C X111 d5_49 rfl ?_
  rw [show ((8 : Int32) + (4 : Int32)) = (12 : Int32) from by decide]
  refine Go.lloadN (pc' := 51) C X111 d5_50 rfl rfl ?_
  refine Go.iconst (z := (4 : Int32)) (pc' := 52) C X111 d5_51 rfl rfl ?_
  refine Go.iload (pc' := 54) C X111 d5_52 rfl rfl ?_
  have O113 : Ext Z.heap h111 := (Ext.wr O110 W111 hn)
  refine Go.callS (y := mN2) (pc' := 57) C X111 (tw hw 22 rfl) (tw hw 23 rfl) (by decide) (rm_enc l Z a0 hw w ((4 : Int32)) y h111 O113 ) (tw hw 24 rfl) (tw hw 4 rfl) e111 (argsL := [(.long w), (.int (4 : Int32)), (.int y)]) (rest := [(.int (12 : Int32)), (.ref a)]) (W := 2) rfl rfl pd_16 rfl (Nat.le_of_eq rfl) rfl (by decide) (by decide) (by decide) (by decide) d5_54 rfl ?_
  intro T112 v112 L112 X112 q112
  obtain ⟨rfl, rfl, e112⟩ := q112
  have N112 := Fr.app N111 (Fr.nil _)
  refine Go.stC (i := 12) (x' := (chI w (4 : Int32) y)) (vs' := [(.int x0), (.int x1), (.int x2), (.int x3), (.int x4), (.int x5), (.int x6), (.int x7), (.int (chI w (0 : Int32) y)), (.int (chI w (1 : Int32) y)), (.int (chI w (2 : Int32) y)), (.int (chI w (3 : Int32) y)), (.int (chI w (4 : Int32) y)), (.int x13), (.int x14), (.int x15)]) (pc' := 58) C X112 e112 A111 (by decide) (by decide) (by simp) (narcr (chI_r _ _ _)) rfl d5_57 rfl ?_
  intro T114 h114 X114 e114 W114 A114
  have N114 := Fr.snoc X114 N112 hn
  refine Go.aloadN (pc' := 59) C X114 d5_58 rfl rfl rfl ?_
  refine Go.iloadN (pc' := 60) C X114 d5_59 rfl rfl ?_
  refine Go.iconst (z := (5 : Int32)) (pc' := 61) C X114 d5_60 rfl rfl ?_
  refine Go.iadd (pc' := 62) C X114 d5_61 rfl ?_
  rw [show ((8 : Int32) + (5 : Int32)) = (13 : Int32) from by decide]
  refine Go.lloadN (pc' := 63) C X114 d5_62 rfl rfl ?_
  refine Go.iconst (z := (5 : Int32)) (pc' := 64) C X114 d5_63 rfl rfl ?_
  refine Go.iload (pc' := 66) C X114 d5_64 rfl rfl ?_
  have O116 : Ext Z.heap h114 := (Ext.wr O113 W114 hn)
  refine Go.callS (y := mN2) (pc' := 69) C X114 (tw hw 22 rfl) (tw hw 23 rfl) (by decide) (rm_enc l Z a0 hw w ((5 : Int32)) y h114 O116 ) (tw hw 24 rfl) (tw hw 4 rfl) e114 (argsL := [(.long w), (.int (5 : Int32)), (.int y)]) (rest := [(.int (13 : Int32)), (.ref a)]) (W := 2) rfl rfl pd_16 rfl (Nat.le_of_eq rfl) rfl (by decide) (by decide) (by decide) (by decide) d5_66 rfl ?_
  intro T115 v115 L115 X115 q115
  obtain ⟨rfl, rfl, e115⟩ := q115
  have N115 := Fr.app N114 (Fr.nil _)
  refine Go.stC (i := 13) (x' := (chI w (5 : Int32) y)) (vs' := [(.int x0), (.int x1), (.int x2), (.int x3), (.int x4), (.int x5), (.int x6), (.int x7), (.int (chI w (0 : Int32) y)), (.int (chI w (1 : Int32) y)), (.int (chI w (2 : Int32) y)), (.int (chI w (3 : Int32) y)), (.int (chI w (4 : Int32) y)), (.int (chI w (5 : Int32) y)), (.int x14), (.int x15)]) (pc' := 70) C X115 e115 A114 (by decide) (by decide) (by simp) (narcr (chI_r _ _ _)) rfl d5_69 rfl ?_
  intro T117 h117 X117 e117 W117 A117
  have N117 := Fr.snoc X117 N115 hn
  refine Go.aloadN (pc' := 71) C X117 d5_70 rfl rfl rfl ?_
  refine Go.iloadN (pc' := 72) C X117 d5_71 rfl rfl ?_
  refine Go.bipush (z := (6 : Int32)) (pc' := 74) C X117 d5_72 rfl rfl ?_
  refine Go.iadd (pc' := 75) C X117 d5_74 rfl ?_
  rw [show ((8 : Int32) + (6 : Int32)) = (14 : Int32) from by decide]
  refine Go.lloadN (pc' := 76) C X117 d5_75 rfl rfl ?_
  refine Go.bipush (z := (6 : Int32)) (pc' := 78) C X117 d5_76 rfl rfl ?_
  refine Go.iload (pc' := 80) C X117 d5_78 rfl rfl ?_
  have O119 : Ext Z.heap h117 := (Ext.wr O116 W117 hn)
  refine Go.callS (y := mN2) (pc' := 83) C X117 (tw hw 22 rfl) (tw hw 23 rfl) (by decide) (rm_enc l Z a0 hw w ((6 : Int32)) y h117 O119 ) (tw hw 24 rfl) (tw hw 4 rfl) e117 (argsL := [(.long w), (.int (6 : Int32)), (.int y)]) (rest := [(.int (14 : Int32)), (.ref a)]) (W := 2) rfl rfl pd_16 rfl (Nat.le_of_eq rfl) rfl (by decide) (by decide) (by decide) (by decide) d5_80 rfl ?_
  intro T118 v118 L118 X118 q118
  obtain ⟨rfl, rfl, e118⟩ := q118
  have N118 := Fr.app N117 (Fr.nil _)
  refine Go.stC (i := 14) (x' := (chI w (6 : Int32) y)) (vs' := [(.int x0), (.int x1), (.int x2), (.int x3), (.int x4), (.int x5), (.int x6), (.int x7), (.int (chI w (0 : Int32) y)), (.int (chI w (1 : Int32) y)), (.int (chI w (2 : Int32) y)), (.int (chI w (3 : Int32) y)), (.int (chI w (4 : Int32) y)), (.int (chI w (5 : Int32) y)), (.int (chI w (6 : Int32) y)), (.int x15)]) (pc' := 84) C X118 e118 A117 (by decide) (by decide) (by simp) (narcr (chI_r _ _ _)) rfl d5_83 rfl ?_
  intro T120 h120 X120 e120 W120 A120
  have N120 := Fr.snoc X120 N118 hn
  refine Go.aloadN (pc' := 85) C X120 d5_84 rfl rfl rfl ?_
  refine Go.iloadN (pc' := 86) C X120 d5_85 rfl rfl ?_
  refine Go.bipush (z := (7 : Int32)) (pc' := 88) C X120 d5_86 rfl rfl ?_
  refine Go.iadd (pc' := 89) C X120 d5_88 rfl ?_
  rw [show ((8 : Int32) + (7 : Int32)) = (15 : Int32) from by decide]
  refine Go.lloadN (pc' := 90) C X120 d5_89 rfl rfl ?_
  refine Go.bipush (z := (7 : Int32)) (pc' := 92) C X120 d5_90 rfl rfl ?_
  refine Go.iload (pc' := 94) C X120 d5_92 rfl rfl ?_
  have O122 : Ext Z.heap h120 := (Ext.wr O119 W120 hn)
  refine Go.callS (y := mN2) (pc' := 97) C X120 (tw hw 22 rfl) (tw hw 23 rfl) (by decide) (rm_enc l Z a0 hw w ((7 : Int32)) y h120 O122 ) (tw hw 24 rfl) (tw hw 4 rfl) e120 (argsL := [(.long w), (.int (7 : Int32)), (.int y)]) (rest := [(.int (15 : Int32)), (.ref a)]) (W := 2) rfl rfl pd_16 rfl (Nat.le_of_eq rfl) rfl (by decide) (by decide) (by decide) (by decide) d5_94 rfl ?_
  intro T121 v121 L121 X121 q121
  obtain ⟨rfl, rfl, e121⟩ := q121
  have N121 := Fr.app N120 (Fr.nil _)
  refine Go.stC (i := 15) (x' := (chI w (7 : Int32) y)) (vs' := [(.int x0), (.int x1), (.int x2), (.int x3), (.int x4), (.int x5), (.int x6), (.int x7), (.int (chI w (0 : Int32) y)), (.int (chI w (1 : Int32) y)), (.int (chI w (2 : Int32) y)), (.int (chI w (3 : Int32) y)), (.int (chI w (4 : Int32) y)), (.int (chI w (5 : Int32) y)), (.int (chI w (6 : Int32) y)), (.int (chI w (7 : Int32) y))]) (pc' := 98) C X121 e121 A120 (by decide) (by decide) (by simp) (narcr (chI_r _ _ _)) rfl d5_97 rfl ?_
  intro T123 h123 X123 e123 W123 A123
  have N123 := Fr.snoc X123 N121 hn
  have K124 : Keep h0 h123 [a] := (((((((((Keep.refl h0 [a]).wr W102 (Or.inl (by simp))).wr W105 (Or.inl (by simp))).wr W108 (Or.inl (by simp))).wr W111 (Or.inl (by simp))).wr W114 (Or.inl (by simp))).wr W117 (Or.inl (by simp))).wr W120 (Or.inl (by simp))).wr W123 (Or.inl (by simp)))
  exact Go.retV C X123 rfl d5_98 (by rw [e123]; exact ⟨rfl, N123, K124, A123⟩) (by decide) (by decide)
theorem keepv (w M : Int64) (s : Nat) (D : Int) (hD : D = (2 ^ s : Nat)) (hs : s ≤ 63) (hm : M.toBitVec.toNat = 2 ^ s - 1) (h0 : 0 ≤ w.toInt) : (w &&& (M ^^^ (-1 : Int64))).toInt = w.toInt / D * D := by
  rw [andn]
  have a := c_maskL w M s hs hm
  rw [← hD] at a
  have b := c_lsub w (w &&& M)
  have r1 := rng64 (w - (w &&& M))
  have r2 := rng64 w
  have e := Int.mul_ediv_add_emod w.toInt D
  have dp : 0 < D := by rw [hD]; exact_mod_cast Nat.two_pow_pos s
  have m0 := Int.emod_nonneg w.toInt (by omega : D ≠ 0)
  have m1 := Int.mul_nonneg (Int.ediv_nonneg h0 (Int.le_of_lt dp)) (Int.le_of_lt dp)
  rw [Int.mul_comm] at e
  omega
theorem bufv {P B b : Int32} (hB : B = ((P <<< ((8 : Int32) &&& 31)) ||| (b.toInt8.toInt32 &&& (255 : Int32)))) : B.toInt % 4096 = (P.toInt % 16) * 256 + b.toInt % 256 := by
  have a := c_ishl P (8 : Int32) 8 (by decide)
  have ra := rng32 (P <<< ((8 : Int32) &&& 31))
  have b1 := c_i2b b
  have b2 := c_mask b.toInt8.toInt32 (255 : Int32) 8 (by decide) (by decide)
  generalize (P <<< ((8 : Int32) &&& 31)) = A at *
  generalize (b.toInt8.toInt32 &&& (255 : Int32)) = C at *
  have o := c_or A C 8 (by decide) 256 (by decide) (by omega) (by omega) (by omega)
  have ro := rng32 (A ||| C)
  rw [← hB] at o ro
  omega
theorem ixv {B c : Int32} (r : Int32) (k : Nat) (D : Int) (hD : D = (2 ^ k : Nat)) (hk : r.toBitVec.toNat % 32 = k) (h0 : 0 < k) (h7 : k ≤ 7) (hc : c = (((B.toUInt32 >>> (r &&& 31).toUInt32).toInt32) &&& (31 : Int32))) : c.toInt = (B.toInt % 4096 / D) % 32 := by
  have a := c_iushr B r k hk h0
  have b := c_mask ((B.toUInt32 >>> (r &&& 31).toUInt32).toInt32) (31 : Int32) 5 (by decide) (by decide)
  rw [hc, b, a]
  subst hD
  have h : k = 1 ∨ k = 2 ∨ k = 3 ∨ k = 4 ∨ k = 5 ∨ k = 6 ∨ k = 7 := by omega
  rcases h with rfl | rfl | rfl | rfl | rfl | rfl | rfl <;> simp <;> omega
theorem ixv0 {B c : Int32} (hc : c = (((B.toUInt32 >>> ((0 : Int32) &&& 31).toUInt32).toInt32) &&& (31 : Int32))) : c.toInt = (B.toInt % 4096 / 1) % 32 := by
  have e : (B.toUInt32 >>> ((0 : Int32) &&& 31).toUInt32).toInt32 = B := by
    apply Int32.toBitVec_inj.mp; simp
  rw [e] at hc
  have b := c_mask B (31 : Int32) 5 (by decide) (by decide)
  rw [hc, b]; first | (simp; done) | (simp; omega)
theorem ixl {B c : Int32} (r : Int32) (k : Nat) (D : Int) (hD : D = (2 ^ k : Nat)) (hk : r.toBitVec.toNat % 32 = k) (h7 : k ≤ 5) (hc : c = ((B <<< (r &&& 31)) &&& (31 : Int32))) : c.toInt = (B.toInt * D) % 32 := by
  have a := c_ishl B r k hk
  have b := c_mask (B <<< (r &&& 31)) (31 : Int32) 5 (by decide) (by decide)
  rw [← hD] at a
  rw [hc, b]; simp; omega
theorem pf_4 : plainFor mN4 = true := plainFor_of_name (by first | (simp [plainName, overriddenIn]; done) | decide +kernel)
theorem d4_0 : decode method_4_code 0 = .ok (.iload_n 2, 1) := by decide +kernel
theorem d4_1 : decode method_4_code 1 = .ok (.iconst 5, 1) := by decide +kernel
theorem d4_2 : decode method_4_code 2 = .ok (.if_icmp .lt 5, 3) := by decide +kernel
theorem d4_7 : decode method_4_code 7 = .ok (.lload_n 0, 1) := by decide +kernel
theorem d4_8 : decode method_4_code 8 = .ok (.lconst 1, 1) := by decide +kernel
theorem d4_9 : decode method_4_code 9 = .ok (.bipush 40, 2) := by decide +kernel
theorem d4_11 : decode method_4_code 11 = .ok (.bipush 8, 2) := by decide +kernel
theorem d4_13 : decode method_4_code 13 = .ok (.iload_n 2, 1) := by decide +kernel
theorem d4_14 : decode method_4_code 14 = .ok (.imul, 1) := by decide +kernel
theorem d4_15 : decode method_4_code 15 = .ok (.isub, 1) := by decide +kernel
theorem d4_16 : decode method_4_code 16 = .ok (.lshl, 1) := by decide +kernel
theorem d4_17 : decode method_4_code 17 = .ok (.lconst 1, 1) := by decide +kernel
theorem d4_18 : decode method_4_code 18 = .ok (.lsub, 1) := by decide +kernel
theorem d4_19 : decode method_4_code 19 = .ok (.ldc2_w 50, 3) := by decide +kernel
theorem d4_22 : decode method_4_code 22 = .ok (.lxor, 1) := by decide +kernel
theorem d4_23 : decode method_4_code 23 = .ok (.land, 1) := by decide +kernel
theorem d4_24 : decode method_4_code 24 = .ok (.lreturn, 1) := by decide +kernel
def Q_kp0 (Z : State) (w : Int64) (h0 : Heap) (rv : Option Value) (h : Heap) (L : List Loc) : Prop := ∃ K : Int64, rv = some (.long K) ∧ L = [] ∧ h = h0 ∧ (K.toInt = w.toInt / 1099511627776 * 1099511627776)
theorem rm_kp0 (l : Launch) (Z : State) (a0 : Array Value) (hw : ∀ d ∈ tables_1, d.before a0 Z = true) (w : Int64) (h0 : Heap) (O0 : Ext Z.heap h0) (hw0 : 0 ≤ w.toInt ∧ w.toInt < 1099511627776) :
    Met1 l Z mN4 method_4_code 3 (some .long) ({ frames := 0, cells := 0, slots := 0, locals := 0 } : Room) #[(.long w), (.int (0 : Int32))] h0 (Q_kp0 Z w h0) := by
  refine Met1.of_body (Ls := #[.val (.long w), .second, .val (.int (0 : Int32))]) pf_4 (fun m => by first | (simp [entryFrame, mkF, argsToLocals, Value.category]; done) | rfl) ?_
  intro p e s m below meth c T0 C X0 e0
  have N0 : Fr Z.heap.size [] := Fr.nil _
  refine Go.iloadN (pc' := 1) C X0 d4_0 rfl rfl ?_
  refine Go.iconst (z := (5 : Int32)) (pc' := 2) C X0 d4_1 rfl rfl ?_
  refine Go.icmpYes (pc' := 7) C X0 d4_2 (tlt (x := (0 : Int32)) (y := (5 : Int32)) (by decide)).1 (by decide) (by decide) ?_
  refine Go.lloadN (pc' := 8) C X0 d4_7 rfl rfl ?_
  refine Go.lconst (z := (1 : Int64)) (pc' := 9) C X0 d4_8 rfl rfl ?_
  refine Go.bipush (z := (40 : Int32)) (pc' := 11) C X0 d4_9 rfl rfl ?_
  refine Go.bipush (z := (8 : Int32)) (pc' := 13) C X0 d4_11 rfl rfl ?_
  refine Go.iloadN (pc' := 14) C X0 d4_13 rfl rfl ?_
  refine Go.imul (pc' := 15) C X0 d4_14 rfl ?_
  rw [show ((8 : Int32) * (0 : Int32)) = (0 : Int32) from by decide]
  refine Go.isub (pc' := 16) C X0 d4_15 rfl ?_
  rw [show ((40 : Int32) - (0 : Int32)) = (40 : Int32) from by decide]
  refine Go.lshl (pc' := 17) C X0 d4_16 rfl ?_
  refine Go.lconst (z := (1 : Int64)) (pc' := 18) C X0 d4_17 rfl rfl ?_
  refine Go.lsub (pc' := 19) C X0 d4_18 rfl ?_
  refine Go.ldc2J (pc' := 22) C X0 d4_19 (tw hw 17 rfl) rfl ?_
  refine Go.lxor (pc' := 23) C X0 d4_22 rfl ?_
  refine Go.land (pc' := 24) C X0 d4_23 rfl ?_
  exact Go.retJ C X0 rfl d4_24 (by rw [e0]; exact ⟨(w &&& ((((1 : Int64) <<< ((40 : Int32) &&& 0x3f).toInt64) - (1 : Int64)) ^^^ (-1 : Int64))), rfl, rfl, rfl, (keepv _ _ 40 _ (by decide) (by decide) (by decide) hw0.1)⟩) (by decide) (by decide)
def Q_kp1 (Z : State) (w : Int64) (h0 : Heap) (rv : Option Value) (h : Heap) (L : List Loc) : Prop := ∃ K : Int64, rv = some (.long K) ∧ L = [] ∧ h = h0 ∧ (K.toInt = w.toInt / 4294967296 * 4294967296)
theorem rm_kp1 (l : Launch) (Z : State) (a0 : Array Value) (hw : ∀ d ∈ tables_1, d.before a0 Z = true) (w : Int64) (h0 : Heap) (O0 : Ext Z.heap h0) (hw0 : 0 ≤ w.toInt ∧ w.toInt < 1099511627776) :
    Met1 l Z mN4 method_4_code 3 (some .long) ({ frames := 0, cells := 0, slots := 0, locals := 0 } : Room) #[(.long w), (.int (1 : Int32))] h0 (Q_kp1 Z w h0) := by
  refine Met1.of_body (Ls := #[.val (.long w), .second, .val (.int (1 : Int32))]) pf_4 (fun m => by first | (simp [entryFrame, mkF, argsToLocals, Value.category]; done) | rfl) ?_
  intro p e s m below meth c T0 C X0 e0
  have N0 : Fr Z.heap.size [] := Fr.nil _
  refine Go.iloadN (pc' := 1) C X0 d4_0 rfl rfl ?_
  refine Go.iconst (z := (5 : Int32)) (pc' := 2) C X0 d4_1 rfl rfl ?_
  refine Go.icmpYes (pc' := 7) C X0 d4_2 (tlt (x := (1 : Int32)) (y := (5 : Int32)) (by decide)).1 (by decide) (by decide) ?_
  refine Go.lloadN (pc' := 8) C X0 d4_7 rfl rfl ?_
  refine Go.lconst (z := (1 : Int64)) (pc' := 9) C X0 d4_8 rfl rfl ?_
  refine Go.bipush (z := (40 : Int32)) (pc' := 11) C X0 d4_9 rfl rfl ?_
  refine Go.bipush (z := (8 : Int32)) (pc' := 13) C X0 d4_11 rfl rfl ?_
  refine Go.iloadN (pc' := 14) C X0 d4_13 rfl rfl ?_
  refine Go.imul (pc' := 15) C X0 d4_14 rfl ?_
  rw [show ((8 : Int32) * (1 : Int32)) = (8 : Int32) from by decide]
  refine Go.isub (pc' := 16) C X0 d4_15 rfl ?_
  rw [show ((40 : Int32) - (8 : Int32)) = (32 : Int32) from by decide]
  refine Go.lshl (pc' := 17) C X0 d4_16 rfl ?_
  refine Go.lconst (z := (1 : Int64)) (pc' := 18) C X0 d4_17 rfl rfl ?_
  refine Go.lsub (pc' := 19) C X0 d4_18 rfl ?_
  refine Go.ldc2J (pc' := 22) C X0 d4_19 (tw hw 17 rfl) rfl ?_
  refine Go.lxor (pc' := 23) C X0 d4_22 rfl ?_
  refine Go.land (pc' := 24) C X0 d4_23 rfl ?_
  exact Go.retJ C X0 rfl d4_24 (by rw [e0]; exact ⟨(w &&& ((((1 : Int64) <<< ((32 : Int32) &&& 0x3f).toInt64) - (1 : Int64)) ^^^ (-1 : Int64))), rfl, rfl, rfl, (keepv _ _ 32 _ (by decide) (by decide) (by decide) hw0.1)⟩) (by decide) (by decide)
def Q_kp2 (Z : State) (w : Int64) (h0 : Heap) (rv : Option Value) (h : Heap) (L : List Loc) : Prop := ∃ K : Int64, rv = some (.long K) ∧ L = [] ∧ h = h0 ∧ (K.toInt = w.toInt / 16777216 * 16777216)
theorem rm_kp2 (l : Launch) (Z : State) (a0 : Array Value) (hw : ∀ d ∈ tables_1, d.before a0 Z = true) (w : Int64) (h0 : Heap) (O0 : Ext Z.heap h0) (hw0 : 0 ≤ w.toInt ∧ w.toInt < 1099511627776) :
    Met1 l Z mN4 method_4_code 3 (some .long) ({ frames := 0, cells := 0, slots := 0, locals := 0 } : Room) #[(.long w), (.int (2 : Int32))] h0 (Q_kp2 Z w h0) := by
  refine Met1.of_body (Ls := #[.val (.long w), .second, .val (.int (2 : Int32))]) pf_4 (fun m => by first | (simp [entryFrame, mkF, argsToLocals, Value.category]; done) | rfl) ?_
  intro p e s m below meth c T0 C X0 e0
  have N0 : Fr Z.heap.size [] := Fr.nil _
  refine Go.iloadN (pc' := 1) C X0 d4_0 rfl rfl ?_
  refine Go.iconst (z := (5 : Int32)) (pc' := 2) C X0 d4_1 rfl rfl ?_
  refine Go.icmpYes (pc' := 7) C X0 d4_2 (tlt (x := (2 : Int32)) (y := (5 : Int32)) (by decide)).1 (by decide) (by decide) ?_
  refine Go.lloadN (pc' := 8) C X0 d4_7 rfl rfl ?_
  refine Go.lconst (z := (1 : Int64)) (pc' := 9) C X0 d4_8 rfl rfl ?_
  refine Go.bipush (z := (40 : Int32)) (pc' := 11) C X0 d4_9 rfl rfl ?_
  refine Go.bipush (z := (8 : Int32)) (pc' := 13) C X0 d4_11 rfl rfl ?_
  refine Go.iloadN (pc' := 14) C X0 d4_13 rfl rfl ?_
  refine Go.imul (pc' := 15) C X0 d4_14 rfl ?_
  rw [show ((8 : Int32) * (2 : Int32)) = (16 : Int32) from by decide]
  refine Go.isub (pc' := 16) C X0 d4_15 rfl ?_
  rw [show ((40 : Int32) - (16 : Int32)) = (24 : Int32) from by decide]
  refine Go.lshl (pc' := 17) C X0 d4_16 rfl ?_
  refine Go.lconst (z := (1 : Int64)) (pc' := 18) C X0 d4_17 rfl rfl ?_
  refine Go.lsub (pc' := 19) C X0 d4_18 rfl ?_
  refine Go.ldc2J (pc' := 22) C X0 d4_19 (tw hw 17 rfl) rfl ?_
  refine Go.lxor (pc' := 23) C X0 d4_22 rfl ?_
  refine Go.land (pc' := 24) C X0 d4_23 rfl ?_
  exact Go.retJ C X0 rfl d4_24 (by rw [e0]; exact ⟨(w &&& ((((1 : Int64) <<< ((24 : Int32) &&& 0x3f).toInt64) - (1 : Int64)) ^^^ (-1 : Int64))), rfl, rfl, rfl, (keepv _ _ 24 _ (by decide) (by decide) (by decide) hw0.1)⟩) (by decide) (by decide)
def Q_kp3 (Z : State) (w : Int64) (h0 : Heap) (rv : Option Value) (h : Heap) (L : List Loc) : Prop := ∃ K : Int64, rv = some (.long K) ∧ L = [] ∧ h = h0 ∧ (K.toInt = w.toInt / 65536 * 65536)
theorem rm_kp3 (l : Launch) (Z : State) (a0 : Array Value) (hw : ∀ d ∈ tables_1, d.before a0 Z = true) (w : Int64) (h0 : Heap) (O0 : Ext Z.heap h0) (hw0 : 0 ≤ w.toInt ∧ w.toInt < 1099511627776) :
    Met1 l Z mN4 method_4_code 3 (some .long) ({ frames := 0, cells := 0, slots := 0, locals := 0 } : Room) #[(.long w), (.int (3 : Int32))] h0 (Q_kp3 Z w h0) := by
  refine Met1.of_body (Ls := #[.val (.long w), .second, .val (.int (3 : Int32))]) pf_4 (fun m => by first | (simp [entryFrame, mkF, argsToLocals, Value.category]; done) | rfl) ?_
  intro p e s m below meth c T0 C X0 e0
  have N0 : Fr Z.heap.size [] := Fr.nil _
  refine Go.iloadN (pc' := 1) C X0 d4_0 rfl rfl ?_
  refine Go.iconst (z := (5 : Int32)) (pc' := 2) C X0 d4_1 rfl rfl ?_
  refine Go.icmpYes (pc' := 7) C X0 d4_2 (tlt (x := (3 : Int32)) (y := (5 : Int32)) (by decide)).1 (by decide) (by decide) ?_
  refine Go.lloadN (pc' := 8) C X0 d4_7 rfl rfl ?_
  refine Go.lconst (z := (1 : Int64)) (pc' := 9) C X0 d4_8 rfl rfl ?_
  refine Go.bipush (z := (40 : Int32)) (pc' := 11) C X0 d4_9 rfl rfl ?_
  refine Go.bipush (z := (8 : Int32)) (pc' := 13) C X0 d4_11 rfl rfl ?_
  refine Go.iloadN (pc' := 14) C X0 d4_13 rfl rfl ?_
  refine Go.imul (pc' := 15) C X0 d4_14 rfl ?_
  rw [show ((8 : Int32) * (3 : Int32)) = (24 : Int32) from by decide]
  refine Go.isub (pc' := 16) C X0 d4_15 rfl ?_
  rw [show ((40 : Int32) - (24 : Int32)) = (16 : Int32) from by decide]
  refine Go.lshl (pc' := 17) C X0 d4_16 rfl ?_
  refine Go.lconst (z := (1 : Int64)) (pc' := 18) C X0 d4_17 rfl rfl ?_
  refine Go.lsub (pc' := 19) C X0 d4_18 rfl ?_
  refine Go.ldc2J (pc' := 22) C X0 d4_19 (tw hw 17 rfl) rfl ?_
  refine Go.lxor (pc' := 23) C X0 d4_22 rfl ?_
  refine Go.land (pc' := 24) C X0 d4_23 rfl ?_
  exact Go.retJ C X0 rfl d4_24 (by rw [e0]; exact ⟨(w &&& ((((1 : Int64) <<< ((16 : Int32) &&& 0x3f).toInt64) - (1 : Int64)) ^^^ (-1 : Int64))), rfl, rfl, rfl, (keepv _ _ 16 _ (by decide) (by decide) (by decide) hw0.1)⟩) (by decide) (by decide)
def Q_kp4 (Z : State) (w : Int64) (h0 : Heap) (rv : Option Value) (h : Heap) (L : List Loc) : Prop := ∃ K : Int64, rv = some (.long K) ∧ L = [] ∧ h = h0 ∧ (K.toInt = w.toInt / 256 * 256)
theorem rm_kp4 (l : Launch) (Z : State) (a0 : Array Value) (hw : ∀ d ∈ tables_1, d.before a0 Z = true) (w : Int64) (h0 : Heap) (O0 : Ext Z.heap h0) (hw0 : 0 ≤ w.toInt ∧ w.toInt < 1099511627776) :
    Met1 l Z mN4 method_4_code 3 (some .long) ({ frames := 0, cells := 0, slots := 0, locals := 0 } : Room) #[(.long w), (.int (4 : Int32))] h0 (Q_kp4 Z w h0) := by
  refine Met1.of_body (Ls := #[.val (.long w), .second, .val (.int (4 : Int32))]) pf_4 (fun m => by first | (simp [entryFrame, mkF, argsToLocals, Value.category]; done) | rfl) ?_
  intro p e s m below meth c T0 C X0 e0
  have N0 : Fr Z.heap.size [] := Fr.nil _
  refine Go.iloadN (pc' := 1) C X0 d4_0 rfl rfl ?_
  refine Go.iconst (z := (5 : Int32)) (pc' := 2) C X0 d4_1 rfl rfl ?_
  refine Go.icmpYes (pc' := 7) C X0 d4_2 (tlt (x := (4 : Int32)) (y := (5 : Int32)) (by decide)).1 (by decide) (by decide) ?_
  refine Go.lloadN (pc' := 8) C X0 d4_7 rfl rfl ?_
  refine Go.lconst (z := (1 : Int64)) (pc' := 9) C X0 d4_8 rfl rfl ?_
  refine Go.bipush (z := (40 : Int32)) (pc' := 11) C X0 d4_9 rfl rfl ?_
  refine Go.bipush (z := (8 : Int32)) (pc' := 13) C X0 d4_11 rfl rfl ?_
  refine Go.iloadN (pc' := 14) C X0 d4_13 rfl rfl ?_
  refine Go.imul (pc' := 15) C X0 d4_14 rfl ?_
  rw [show ((8 : Int32) * (4 : Int32)) = (32 : Int32) from by decide]
  refine Go.isub (pc' := 16) C X0 d4_15 rfl ?_
  rw [show ((40 : Int32) - (32 : Int32)) = (8 : Int32) from by decide]
  refine Go.lshl (pc' := 17) C X0 d4_16 rfl ?_
  refine Go.lconst (z := (1 : Int64)) (pc' := 18) C X0 d4_17 rfl rfl ?_
  refine Go.lsub (pc' := 19) C X0 d4_18 rfl ?_
  refine Go.ldc2J (pc' := 22) C X0 d4_19 (tw hw 17 rfl) rfl ?_
  refine Go.lxor (pc' := 23) C X0 d4_22 rfl ?_
  refine Go.land (pc' := 24) C X0 d4_23 rfl ?_
  exact Go.retJ C X0 rfl d4_24 (by rw [e0]; exact ⟨(w &&& ((((1 : Int64) <<< ((8 : Int32) &&& 0x3f).toInt64) - (1 : Int64)) ^^^ (-1 : Int64))), rfl, rfl, rfl, (keepv _ _ 8 _ (by decide) (by decide) (by decide) hw0.1)⟩) (by decide) (by decide)
theorem d4_5 : decode method_4_code 5 = .ok (.lload_n 0, 1) := by decide +kernel
theorem d4_6 : decode method_4_code 6 = .ok (.lreturn, 1) := by decide +kernel
def Q_kp5 (Z : State) (w : Int64) (h0 : Heap) (rv : Option Value) (h : Heap) (L : List Loc) : Prop := rv = some (.long w) ∧ L = [] ∧ h = h0
theorem rm_kp5 (l : Launch) (Z : State) (a0 : Array Value) (hw : ∀ d ∈ tables_1, d.before a0 Z = true) (w : Int64) (h0 : Heap) (O0 : Ext Z.heap h0) :
    Met1 l Z mN4 method_4_code 3 (some .long) ({ frames := 0, cells := 0, slots := 0, locals := 0 } : Room) #[(.long w), (.int (5 : Int32))] h0 (Q_kp5 Z w h0) := by
  refine Met1.of_body (Ls := #[.val (.long w), .second, .val (.int (5 : Int32))]) pf_4 (fun m => by first | (simp [entryFrame, mkF, argsToLocals, Value.category]; done) | rfl) ?_
  intro p e s m below meth c T0 C X0 e0
  have N0 : Fr Z.heap.size [] := Fr.nil _
  refine Go.iloadN (pc' := 1) C X0 d4_0 rfl rfl ?_
  refine Go.iconst (z := (5 : Int32)) (pc' := 2) C X0 d4_1 rfl rfl ?_
  refine Go.icmpNo (pc' := 5) C X0 d4_2 (flt (x := (5 : Int32)) (y := (5 : Int32)) (by decide)).1 rfl ?_
  refine Go.lloadN (pc' := 6) C X0 d4_5 rfl rfl ?_
  exact Go.retJ C X0 rfl d4_6 (by rw [e0]; exact ⟨rfl, rfl, rfl⟩) (by decide) (by decide)
theorem put_lt {i0 : Int32} {i n : Nat} (h0 : ¬ i0 < (0 : Int32)) (h1 : i0.toNatClampNeg = i) (hn : n ≤ 16) (h : i0 < n.toInt32) : i < n := by
  rw [Int32.lt_iff_toInt_lt] at h h0; rw [n32_int (by omega)] at h; simp only [Int32.toNatClampNeg] at h1; simp only [Int32.reduceToInt] at h0; omega
theorem put_ge {i0 : Int32} {i n : Nat} (h0 : ¬ i0 < (0 : Int32)) (h1 : i0.toNatClampNeg = i) (hn : n ≤ 16) (h : ¬ i0 < n.toInt32) : n ≤ i := by
  rw [Int32.lt_iff_toInt_lt] at h h0; rw [n32_int (by omega)] at h; simp only [Int32.toNatClampNeg] at h1; simp only [Int32.reduceToInt] at h0; omega
theorem pf_1 : plainFor mN5 = true := plainFor_of_name (by first | (simp [plainName, overriddenIn]; done) | decide +kernel)
theorem d1_0 : decode method_3_code 0 = .ok (.iload_n 1, 1) := by decide +kernel
theorem d1_1 : decode method_3_code 1 = .ok (.aload_n 0, 1) := by decide +kernel
theorem d1_2 : decode method_3_code 2 = .ok (.arraylength, 1) := by decide +kernel
theorem d1_3 : decode method_3_code 3 = .ok (.if_icmp .ge 18, 3) := by decide +kernel
theorem d1_6 : decode method_3_code 6 = .ok (.aload_n 0, 1) := by decide +kernel
theorem d1_7 : decode method_3_code 7 = .ok (.iload_n 1, 1) := by decide +kernel
theorem d1_8 : decode method_3_code 8 = .ok (.lload_n 2, 1) := by decide +kernel
theorem d1_9 : decode method_3_code 9 = .ok (.bipush 32, 2) := by decide +kernel
theorem d1_11 : decode method_3_code 11 = .ok (.bipush 8, 2) := by decide +kernel
theorem d1_13 : decode method_3_code 13 = .ok (.iload 4, 2) := by decide +kernel
theorem d1_15 : decode method_3_code 15 = .ok (.imul, 1) := by decide +kernel
theorem d1_16 : decode method_3_code 16 = .ok (.isub, 1) := by decide +kernel
theorem d1_17 : decode method_3_code 17 = .ok (.lushr, 1) := by decide +kernel
theorem d1_18 : decode method_3_code 18 = .ok (.l2i, 1) := by decide +kernel
theorem d1_19 : decode method_3_code 19 = .ok (.i2b, 1) := by decide +kernel
theorem d1_20 : decode method_3_code 20 = .ok (.bastore, 1) := by decide +kernel
theorem d1_21 : decode method_3_code 21 = .ok (.return_, 1) := by decide +kernel
def Q_put (Z : State) (a : Addr) (ka : ClassId) (ys : List Int32) (i0 : Int32) (w : Int64) (k0 : Int32) (i : Nat) (q0 : Int32) (h0 : Heap) (rv : Option Value) (h : Heap) (L : List Loc) : Prop := rv = none ∧ Fr Z.heap.size L ∧ Keep h0 h [a] ∧ AL Z h a ka .byte (by8 (ys.set i (bt w q0)))
theorem rm_put (l : Launch) (Z : State) (a0 : Array Value) (hw : ∀ d ∈ tables_1, d.before a0 Z = true) (a : Addr) (ka : ClassId) (ys : List Int32) (i0 : Int32) (w : Int64) (k0 : Int32) (i : Nat) (q0 : Int32) (h0 : Heap) (O0 : Ext Z.heap h0) (A0 : AL Z h0 a ka .byte (by8 ys)) (hl : ys.length ≤ 16) (hi0 : ¬ i0 < (0 : Int32)) (hi1 : i0.toNatClampNeg = i) (hq0 : ((32 : Int32) - ((8 : Int32) * k0)) = q0) (hn : Z.heap.size ≤ a) :
    Met1 l Z mN5 method_3_code 5 none ({ frames := 0, cells := 0, slots := 0, locals := 0 } : Room) #[(.ref a), (.int i0), (.long w), (.int k0)] h0 (Q_put Z a ka ys i0 w k0 i q0 h0) := by
  refine Met1.of_body (Ls := #[.val (.ref a), .val (.int i0), .val (.long w), .second, .val (.int k0)]) pf_1 (fun m => by first | (simp [entryFrame, mkF, argsToLocals, Value.category]; done) | rfl) ?_
  intro p e s m below meth c T0 C X0 e0
  have N0 : Fr Z.heap.size [] := Fr.nil _
  refine Go.iloadN (pc' := 1) C X0 d1_0 rfl rfl ?_
  refine Go.aloadN (pc' := 2) C X0 d1_1 rfl rfl rfl ?_
  refine Go.alen (z := ys.length.toInt32) (pc' := 3) C X0 e0 A0 (by rw [by8_len]) d1_2 rfl ?_
  by_cases hc3_101 : i0 < ys.length.toInt32
  · refine Go.icmpNo (pc' := 6) C X0 d1_3 (tlt (x := i0) (y := ys.length.toInt32) hc3_101).2.1 rfl ?_
    refine Go.aloadN (pc' := 7) C X0 d1_6 rfl rfl rfl ?_
    refine Go.iloadN (pc' := 8) C X0 d1_7 rfl rfl ?_
    refine Go.lloadN (pc' := 9) C X0 d1_8 rfl rfl ?_
    refine Go.bipush (z := (32 : Int32)) (pc' := 11) C X0 d1_9 rfl rfl ?_
    refine Go.bipush (z := (8 : Int32)) (pc' := 13) C X0 d1_11 rfl rfl ?_
    refine Go.iload (pc' := 15) C X0 d1_13 rfl rfl ?_
    refine Go.imul (pc' := 16) C X0 d1_15 rfl ?_
    refine Go.isub (pc' := 17) C X0 d1_16 rfl ?_
    rw [hq0]
    refine Go.lushr (pc' := 18) C X0 d1_17 rfl ?_
    refine Go.l2i (pc' := 19) C X0 d1_18 rfl ?_
    refine Go.i2b (pc' := 20) C X0 d1_19 rfl ?_
    refine Go.stB (i := i) (x' := ((((w.toUInt64 >>> (q0 &&& 0x3f).toInt64.toUInt64).toInt64).toInt32).toInt8.toInt32)) (vs' := (by8 (ys.set i (bt w q0)))) (pc' := 21) C X0 e0 A0 hi0 hi1 (by rw [by8_len]; exact put_lt hi0 hi1 hl hc3_101) (nar_byte8 _) (by8_set _ _ _) d1_20 rfl ?_
    intro T102 h102 X102 e102 W102 A102
    have N102 := Fr.snoc X102 N0 hn
    have K103 : Keep h0 h102 [a] := ((Keep.refl h0 [a]).wr W102 (Or.inl (by simp)))
    exact Go.retV C X102 rfl d1_21 (by rw [e102]; exact ⟨rfl, N102, K103, A102⟩) (by decide) (by decide)
  · refine Go.icmpYes (pc' := 21) C X0 d1_3 (flt (x := i0) (y := ys.length.toInt32) hc3_101).2.1 (by decide) (by decide) ?_
    exact Go.retV C X0 rfl d1_21 (by rw [e0]; exact ⟨rfl, N0, (Keep.refl h0 [a]), (by rw [List.set_eq_of_length_le (put_ge hi0 hi1 hl hc3_101)]; exact A0)⟩) (by decide) (by decide)
theorem p0z : (0 : Int32).toInt % 16 = 0 := by decide
theorem bufw {P B b : Int32} (v : B.toInt % 4096 = (P.toInt % 16) * 256 + b.toInt % 256) : B.toInt % 16 = b.toInt % 16 := by omega
theorem qv {c B P b : Int32} {D u : Int} (ud : c.toInt = (B.toInt % 4096 / D) % 32) (v : B.toInt % 4096 = (P.toInt % 16) * 256 + b.toInt % 256) (w : P.toInt % 16 = u) : c.toInt = (u * 256 + b.toInt % 256) / D % 32 := by rw [ud, v, w]
theorem ql {c B P b : Int32} {D : Int} (ud : c.toInt = (B.toInt * D) % 32) (v : B.toInt % 4096 = (P.toInt % 16) * 256 + b.toInt % 256) : c.toInt = (b.toInt % 256) * D % 32 := by
  have h : B.toInt % 32 = (b.toInt % 256) % 32 := by omega
  rw [ud, Int.mul_emod, h, ← Int.mul_emod]
theorem c_rng {c : Int32} {e : Int} (h : c.toInt = e % 32) : 0 ≤ c.toInt ∧ c.toInt < 32 := by omega
theorem neg_of {c : Int32} (h : 0 ≤ c.toInt) : ¬ c < 0 := by rw [Int32.lt_iff_toInt_lt]; show ¬ c.toInt < 0; omega
theorem d9_32 : decode prog_23_method_5_code 32 = .ok (.iload 6, 2) := by decide +kernel
theorem d9_34 : decode prog_23_method_5_code 34 = .ok (.iload 5, 2) := by decide +kernel
theorem d9_36 : decode prog_23_method_5_code 36 = .ok (.if_icmp .ge 57, 3) := by decide +kernel
theorem d9_39 : decode prog_23_method_5_code 39 = .ok (.aload 4, 2) := by decide +kernel
theorem d9_41 : decode prog_23_method_5_code 41 = .ok (.iload 6, 2) := by decide +kernel
theorem d9_43 : decode prog_23_method_5_code 43 = .ok (.baload, 1) := by decide +kernel
theorem d9_44 : decode prog_23_method_5_code 44 = .ok (.istore 7, 2) := by decide +kernel
theorem d9_46 : decode prog_23_method_5_code 46 = .ok (.iload_n 2, 1) := by decide +kernel
theorem d9_47 : decode prog_23_method_5_code 47 = .ok (.bipush 8, 2) := by decide +kernel
theorem d9_49 : decode prog_23_method_5_code 49 = .ok (.ishl, 1) := by decide +kernel
theorem d9_50 : decode prog_23_method_5_code 50 = .ok (.iload 7, 2) := by decide +kernel
theorem d9_52 : decode prog_23_method_5_code 52 = .ok (.sipush 255, 3) := by decide +kernel
theorem d9_55 : decode prog_23_method_5_code 55 = .ok (.iand, 1) := by decide +kernel
theorem d9_56 : decode prog_23_method_5_code 56 = .ok (.ior, 1) := by decide +kernel
theorem d9_57 : decode prog_23_method_5_code 57 = .ok (.istore_n 2, 1) := by decide +kernel
theorem d9_58 : decode prog_23_method_5_code 58 = .ok (.iinc 3 8, 3) := by decide +kernel
theorem sg_in {p : Program} {l : Launch} {e : Env} {R : Room} {s : State} {m : MethodId} {args : Array Value} {below : List Frame} {meth : Method} {c : Code} {Z : State} {a0 : Array Value} {Fin' : Outcome → State → Prop} (hw : ∀ d ∈ tables_1, d.before a0 Z = true) (a : Addr) (ka : ClassId) (b : Addr) (P : Int32) (B : Int32) (q : Int32) (r : Int32) (n0 : Int32) (i0 : Int32) (s7 : Slot) (yb : Int32) (i : Nat) (vs : List Value) (C : Cx p s m meth c Z "com/example/barrault/barrault/io/WarcDigest" "base32" prog_23_method_5_code 8 (some (.object "java/lang/String"))) (hRf : 0 ≤ R.frames) (hRl : 0 ≤ R.locals) (hlt : i0 < n0) (hi0 : ¬ i0 < (0 : Int32)) (hi1 : i0.toNatClampNeg = i) (hv : vs[i]? = some (.int yb.toInt8.toInt32)) (h7 : One s7) (hB : B = ((P <<< ((8 : Int32) &&& 31)) ||| (yb.toInt8.toInt32 &&& (255 : Int32)))) (hr : (q + (8 : Int32)) = r)
    {T0 : State} {L0 : List Loc} {cells slots : Nat} {h0 : Heap} (hRc : cells ≤ R.cells) (hRs : slots ≤ R.slots) (X0 : Stand p l e R s m args below meth c T0 L0 cells slots) (e0 : T0.heap = h0) (O0 : Ext Z.heap h0) (A0 : AL Z h0 a ka .byte vs) (N0 : Fr Z.heap.size L0)
    (K : Go p e below Fin' T0 (mkF m 61 #[.val (.ref a), .val (.ref b), .val (.int B), .val (.int r), .val (.ref a), .val (.int n0), .val (.int i0), .val (.int yb.toInt8.toInt32)] [])) :
    Go p e below Fin' T0 (mkF m 32 #[.val (.ref a), .val (.ref b), .val (.int P), .val (.int q), .val (.ref a), .val (.int n0), .val (.int i0), s7] []) := by
  refine Go.iload (pc' := 34) C X0 d9_32 rfl rfl ?_
  refine Go.iload (pc' := 36) C X0 d9_34 rfl rfl ?_
  refine Go.icmpNo (pc' := 39) C X0 d9_36 (tlt (x := i0) (y := n0) hlt).2.1 rfl ?_
  refine Go.aload (pc' := 41) C X0 d9_39 rfl rfl rfl ?_
  refine Go.iload (pc' := 43) C X0 d9_41 rfl rfl ?_
  refine Go.ldB (i := i) (v := (.int yb.toInt8.toInt32)) (pc' := 44) C X0 e0 A0 hi0 hi1 hv d9_43 rfl ?_
  refine Go.istore (Ls' := #[.val (.ref a), .val (.ref b), .val (.int P), .val (.int q), .val (.ref a), .val (.int n0), .val (.int i0), .val (.int yb.toInt8.toInt32)]) (pc' := 46) C X0 d9_44 (XS.store1 (o := s7) rfl h7 rfl) rfl ?_
  refine Go.iloadN (pc' := 47) C X0 d9_46 rfl rfl ?_
  refine Go.bipush (z := (8 : Int32)) (pc' := 49) C X0 d9_47 rfl rfl ?_
  refine Go.ishl (pc' := 50) C X0 d9_49 rfl ?_
  refine Go.iload (pc' := 52) C X0 d9_50 rfl rfl ?_
  refine Go.sipush (z := (255 : Int32)) (pc' := 55) C X0 d9_52 rfl rfl ?_
  refine Go.iand (pc' := 56) C X0 d9_55 rfl ?_
  refine Go.ior (pc' := 57) C X0 d9_56 rfl ?_
  refine Go.istoreN (Ls' := #[.val (.ref a), .val (.ref b), .val (.int ((P <<< ((8 : Int32) &&& 31)) ||| (yb.toInt8.toInt32 &&& (255 : Int32)))), .val (.int q), .val (.ref a), .val (.int n0), .val (.int i0), .val (.int yb.toInt8.toInt32)]) (pc' := 58) C X0 d9_57 rfl rfl ?_
  rw [← hB]
  refine Go.iinc (Ls' := #[.val (.ref a), .val (.ref b), .val (.int B), .val (.int (q + (8 : Int32))), .val (.ref a), .val (.int n0), .val (.int i0), .val (.int yb.toInt8.toInt32)]) (z := (8 : Int32)) (pc' := 61) C X0 d9_58 rfl rfl rfl rfl ?_
  rw [hr]
  exact K
theorem d9_61 : decode prog_23_method_5_code 61 = .ok (.iload_n 3, 1) := by decide +kernel
theorem d9_62 : decode prog_23_method_5_code 62 = .ok (.iconst 5, 1) := by decide +kernel
theorem d9_63 : decode prog_23_method_5_code 63 = .ok (.if_icmp .lt 24, 3) := by decide +kernel
theorem d9_87 : decode prog_23_method_5_code 87 = .ok (.iinc 6 1, 3) := by decide +kernel
theorem d9_90 : decode prog_23_method_5_code 90 = .ok (.goto (-58), 3) := by decide +kernel
theorem sg_nx {p : Program} {l : Launch} {e : Env} {R : Room} {s : State} {m : MethodId} {args : Array Value} {below : List Frame} {meth : Method} {c : Code} {Z : State} {a0 : Array Value} {Fin' : Outcome → State → Prop} (hw : ∀ d ∈ tables_1, d.before a0 Z = true) (a : Addr) (b : Addr) (B : Int32) (q : Int32) (n0 : Int32) (i0 : Int32) (i1 : Int32) (x7 : Int32) (C : Cx p s m meth c Z "com/example/barrault/barrault/io/WarcDigest" "base32" prog_23_method_5_code 8 (some (.object "java/lang/String"))) (hRf : 0 ≤ R.frames) (hRl : 0 ≤ R.locals) (hq : q < (5 : Int32)) (hi : (i0 + (1 : Int32)) = i1)
    {T0 : State} {L0 : List Loc} {cells slots : Nat} {h0 : Heap} (hRc : cells ≤ R.cells) (hRs : slots ≤ R.slots) (X0 : Stand p l e R s m args below meth c T0 L0 cells slots) (e0 : T0.heap = h0) (O0 : Ext Z.heap h0) (N0 : Fr Z.heap.size L0)
    (K : Go p e below Fin' T0 (mkF m 32 #[.val (.ref a), .val (.ref b), .val (.int B), .val (.int q), .val (.ref a), .val (.int n0), .val (.int i1), .val (.int x7)] [])) :
    Go p e below Fin' T0 (mkF m 61 #[.val (.ref a), .val (.ref b), .val (.int B), .val (.int q), .val (.ref a), .val (.int n0), .val (.int i0), .val (.int x7)] []) := by
  refine Go.iloadN (pc' := 62) C X0 d9_61 rfl rfl ?_
  refine Go.iconst (z := (5 : Int32)) (pc' := 63) C X0 d9_62 rfl rfl ?_
  refine Go.icmpYes (pc' := 87) C X0 d9_63 (tlt (x := q) (y := (5 : Int32)) hq).1 (by decide) (by decide) ?_
  refine Go.iinc (Ls' := #[.val (.ref a), .val (.ref b), .val (.int B), .val (.int q), .val (.ref a), .val (.int n0), .val (.int (i0 + (1 : Int32))), .val (.int x7)]) (z := (1 : Int32)) (pc' := 90) C X0 d9_87 rfl rfl rfl rfl ?_
  refine Go.goto (pc' := 32) C X0 d9_90 (by decide) (by decide) ?_
  rw [hi]
  exact K
theorem pd_17 : parseMethodDescriptor "(C)Ljava/lang/StringBuilder;" = some ⟨[.char], some (.object "java/lang/StringBuilder")⟩ := by decide +kernel
theorem d9_66 : decode prog_23_method_5_code 66 = .ok (.iinc 3 (-5), 3) := by decide +kernel
theorem d9_69 : decode prog_23_method_5_code 69 = .ok (.aload_n 1, 1) := by decide +kernel
theorem d9_70 : decode prog_23_method_5_code 70 = .ok (.getstatic 55, 3) := by decide +kernel
theorem d9_73 : decode prog_23_method_5_code 73 = .ok (.iload_n 2, 1) := by decide +kernel
theorem d9_74 : decode prog_23_method_5_code 74 = .ok (.iload_n 3, 1) := by decide +kernel
theorem d9_75 : decode prog_23_method_5_code 75 = .ok (.iushr, 1) := by decide +kernel
theorem d9_76 : decode prog_23_method_5_code 76 = .ok (.bipush 31, 2) := by decide +kernel
theorem d9_78 : decode prog_23_method_5_code 78 = .ok (.iand, 1) := by decide +kernel
theorem d9_79 : decode prog_23_method_5_code 79 = .ok (.caload, 1) := by decide +kernel
theorem d9_80 : decode prog_23_method_5_code 80 = .ok (.invokevirtual 59, 3) := by decide +kernel
theorem d9_83 : decode prog_23_method_5_code 83 = .ok (.pop, 1) := by decide +kernel
theorem d9_84 : decode prog_23_method_5_code 84 = .ok (.goto (-23), 3) := by decide +kernel
theorem sg_ch {p : Program} {l : Launch} {e : Env} {R : Room} {s : State} {m : MethodId} {args : Array Value} {below : List Frame} {meth : Method} {c : Code} {Z : State} {a0 : Array Value} {Fin' : Outcome → State → Prop} (hw : ∀ d ∈ tables_1, d.before a0 Z = true) (a : Addr) (b : Addr) (w : Addr) (kw : ClassId) (ys : List Int32) (N : Nat) (k : Nat) (k1 : Nat) (cP : Int32) (ta : Addr) (tk : ClassId) (tb : List Value) (B : Int32) (q : Int32) (r : Int32) (n0 : Int32) (i0 : Int32) (x7 : Int32) (d : Int32) (C : Cx p s m meth c Z "com/example/barrault/barrault/io/WarcDigest" "base32" prog_23_method_5_code 8 (some (.object "java/lang/String"))) (hRf : 3 ≤ R.frames) (hRl : 40 ≤ R.locals) (hk : k < N) (hyl : ys.length = N) (hN : N ≤ 16) (hk1 : k + 1 = k1) (hP : ¬ cP = (0 : Int32)) (hn : Z.heap.size ≤ b) (hnw : Z.heap.size ≤ w) (hbw : b ≠ w) (htb : ∀ c : Int32, 0 ≤ c.toInt → c.toInt < 32 → tb[c.toNatClampNeg]? = some (.int (alf c))) (hq : ¬ q < (5 : Int32)) (hr : (q + (-5 : Int32)) = r) (hd : d = (((B.toUInt32 >>> (r &&& 31).toUInt32).toInt32) &&& (31 : Int32))) (hg : 0 ≤ d.toInt ∧ d.toInt < 32)
    {T0 : State} {L0 : List Loc} {cells slots : Nat} {h0 : Heap} (hRc : cells ≤ R.cells) (hRs : slots ≤ R.slots) (X0 : Stand p l e R s m args below meth c T0 L0 cells slots) (e0 : T0.heap = h0) (O0 : Ext Z.heap h0) (E0 : Exa Z h0 b "java/lang/StringBuilder") (F1 : Fld Z h0 b "java/lang/AbstractStringBuilder" "value" "[B" (.ref w)) (F2 : Fld Z h0 b "java/lang/AbstractStringBuilder" "coder" "B" (.int (0 : Int32))) (F3 : Fld Z h0 b "java/lang/AbstractStringBuilder" "count" "I" (.int k.toInt32)) (Aw : AL Z h0 w kw .byte (by8 ys)) (SC : Sta Z Z.heap "java/lang/String" "COMPACT_STRINGS" "Z" (.int cP)) (ST : Sta Z Z.heap "com/example/barrault/barrault/io/WarcDigest" "BASE32" "[C" (.ref ta)) (AT : AL Z Z.heap ta tk .char tb) (N0 : Fr Z.heap.size L0)
    (K : ∀ (T' : State) (L' : List Loc) (h' : Heap) (Y' : List Int32), Stand p l e R s m args below meth c T' L' cells slots → T'.heap = h' → Keep h0 h' [b, w] → (Y' = ys.set k (alf d)) → (Y'.length = N) → (Fld Z h' b "java/lang/AbstractStringBuilder" "value" "[B" (.ref w)) → (Fld Z h' b "java/lang/AbstractStringBuilder" "coder" "B" (.int (0 : Int32))) → (Fld Z h' b "java/lang/AbstractStringBuilder" "count" "I" (.int k1.toInt32)) → (AL Z h' w kw .byte (by8 Y')) → Fr Z.heap.size L' → Go p e below Fin' T' (mkF m 61 #[.val (.ref a), .val (.ref b), .val (.int B), .val (.int r), .val (.ref a), .val (.int n0), .val (.int i0), .val (.int x7)] [])) :
    Go p e below Fin' T0 (mkF m 61 #[.val (.ref a), .val (.ref b), .val (.int B), .val (.int q), .val (.ref a), .val (.int n0), .val (.int i0), .val (.int x7)] []) := by
  refine Go.iloadN (pc' := 62) C X0 d9_61 rfl rfl ?_
  refine Go.iconst (z := (5 : Int32)) (pc' := 63) C X0 d9_62 rfl rfl ?_
  refine Go.icmpNo (pc' := 66) C X0 d9_63 (flt (x := q) (y := (5 : Int32)) hq).1 rfl ?_
  refine Go.iinc (Ls' := #[.val (.ref a), .val (.ref b), .val (.int B), .val (.int (q + (-5 : Int32))), .val (.ref a), .val (.int n0), .val (.int i0), .val (.int x7)]) (z := (-5 : Int32)) (pc' := 69) C X0 d9_66 rfl rfl rfl rfl ?_
  rw [hr]
  refine Go.aloadN (pc' := 70) C X0 d9_69 rfl rfl rfl ?_
  refine Go.getS (pc' := 73) (host := "") C X0 (Or.inl (tw hw 144 rfl)) Via.refl e0 (ST.ext O0) d9_70 rfl ?_
  intro T102 X102 e102
  refine Go.iloadN (pc' := 74) C X102 d9_73 rfl rfl ?_
  refine Go.iloadN (pc' := 75) C X102 d9_74 rfl rfl ?_
  refine Go.iushr (pc' := 76) C X102 d9_75 rfl ?_
  refine Go.bipush (z := (31 : Int32)) (pc' := 78) C X102 d9_76 rfl rfl ?_
  refine Go.iand (pc' := 79) C X102 d9_78 rfl ?_
  rw [← hd]
  refine Go.ldC (i := d.toNatClampNeg) (v := (.int (alf d))) (pc' := 80) C X102 e102 (AT.ext O0) (neg_of hg.1) rfl (htb d hg.1 hg.2) d9_79 rfl ?_
  refine Go.callV (y := mN21) (z := mN21) (a := b) (pc' := 83) C X102 (tw hw 146 rfl) (tw hw 147 rfl) (notFace_at C.2.1 (tw hw 149 rfl)) (tw hw 149 rfl) (tw hw 148 rfl) E0 (by decide) (rm_sap l Z a0 hw b w kw ys k ((alf d)) cP h0 O0 E0 F1 F2 F3 Aw SC (by rw [hyl]; exact hk) (by rw [hyl]; exact hN) (alf_r hg) hP hn hnw hbw) (tw hw 150 rfl) (tw hw 45 rfl) e102 (argsL := [(.int (alf d))]) (rest := []) (W := 0) rfl rfl pd_17 rfl (Nat.le_of_eq rfl) rfl (Nat.le_trans (by decide) hRf) (Nat.le_trans (by decide) hRl) hRc hRs d9_80 rfl ?_
  intro T103 v103 L103 X103 q103
  obtain ⟨rfl, N103q, K103, P103_0, P103_1, P103_2, P103_3⟩ := q103
  have N103 := Fr.app N0 N103q
  refine Go.pop (pc' := 84) C X103 d9_83 rfl rfl ?_
  refine Go.goto (pc' := 61) C X103 d9_84 (by decide) (by decide) ?_
  have ct : Fld Z T103.heap b "java/lang/AbstractStringBuilder" "count" "I" (.int k1.toInt32) := by rw [← hk1]; exact P103_2
  have K104 : Keep h0 T103.heap [b, w] := ((Keep.refl h0 [b, w]).trans K103 (allS (Or.inl (by simp)) (allS (Or.inl (by simp)) all0)))
  exact K _ _ _ ((ys.set k (alf d))) X103 rfl K104 rfl (by rw [List.length_set]; exact hyl) P103_0 P103_1 ct P103_3 N103
theorem d9_93 : decode prog_23_method_5_code 93 = .ok (.iload_n 3, 1) := by decide +kernel
theorem d9_94 : decode prog_23_method_5_code 94 = .ok (.ifCond .le 20, 3) := by decide +kernel
theorem d9_97 : decode prog_23_method_5_code 97 = .ok (.aload_n 1, 1) := by decide +kernel
theorem d9_98 : decode prog_23_method_5_code 98 = .ok (.getstatic 55, 3) := by decide +kernel
theorem d9_101 : decode prog_23_method_5_code 101 = .ok (.iload_n 2, 1) := by decide +kernel
theorem d9_102 : decode prog_23_method_5_code 102 = .ok (.iconst 5, 1) := by decide +kernel
theorem d9_103 : decode prog_23_method_5_code 103 = .ok (.iload_n 3, 1) := by decide +kernel
theorem d9_104 : decode prog_23_method_5_code 104 = .ok (.isub, 1) := by decide +kernel
theorem d9_105 : decode prog_23_method_5_code 105 = .ok (.ishl, 1) := by decide +kernel
theorem d9_106 : decode prog_23_method_5_code 106 = .ok (.bipush 31, 2) := by decide +kernel
theorem d9_108 : decode prog_23_method_5_code 108 = .ok (.iand, 1) := by decide +kernel
theorem d9_109 : decode prog_23_method_5_code 109 = .ok (.caload, 1) := by decide +kernel
theorem d9_110 : decode prog_23_method_5_code 110 = .ok (.invokevirtual 59, 3) := by decide +kernel
theorem d9_113 : decode prog_23_method_5_code 113 = .ok (.pop, 1) := by decide +kernel
theorem sg_tl {p : Program} {l : Launch} {e : Env} {R : Room} {s : State} {m : MethodId} {args : Array Value} {below : List Frame} {meth : Method} {c : Code} {Z : State} {a0 : Array Value} {Fin' : Outcome → State → Prop} (hw : ∀ d ∈ tables_1, d.before a0 Z = true) (a : Addr) (b : Addr) (w : Addr) (kw : ClassId) (ys : List Int32) (N : Nat) (k : Nat) (k1 : Nat) (cP : Int32) (ta : Addr) (tk : ClassId) (tb : List Value) (B : Int32) (q : Int32) (n0 : Int32) (i0 : Int32) (x7 : Int32) (d : Int32) (C : Cx p s m meth c Z "com/example/barrault/barrault/io/WarcDigest" "base32" prog_23_method_5_code 8 (some (.object "java/lang/String"))) (hRf : 3 ≤ R.frames) (hRl : 40 ≤ R.locals) (hk : k < N) (hyl : ys.length = N) (hN : N ≤ 16) (hk1 : k + 1 = k1) (hP : ¬ cP = (0 : Int32)) (hn : Z.heap.size ≤ b) (hnw : Z.heap.size ≤ w) (hbw : b ≠ w) (htb : ∀ c : Int32, 0 ≤ c.toInt → c.toInt < 32 → tb[c.toNatClampNeg]? = some (.int (alf c))) (hq : (0 : Int32) < q) (hd : d = ((B <<< (((5 : Int32) - q) &&& 31)) &&& (31 : Int32))) (hg : 0 ≤ d.toInt ∧ d.toInt < 32)
    {T0 : State} {L0 : List Loc} {cells slots : Nat} {h0 : Heap} (hRc : cells ≤ R.cells) (hRs : slots ≤ R.slots) (X0 : Stand p l e R s m args below meth c T0 L0 cells slots) (e0 : T0.heap = h0) (O0 : Ext Z.heap h0) (E0 : Exa Z h0 b "java/lang/StringBuilder") (F1 : Fld Z h0 b "java/lang/AbstractStringBuilder" "value" "[B" (.ref w)) (F2 : Fld Z h0 b "java/lang/AbstractStringBuilder" "coder" "B" (.int (0 : Int32))) (F3 : Fld Z h0 b "java/lang/AbstractStringBuilder" "count" "I" (.int k.toInt32)) (Aw : AL Z h0 w kw .byte (by8 ys)) (SC : Sta Z Z.heap "java/lang/String" "COMPACT_STRINGS" "Z" (.int cP)) (ST : Sta Z Z.heap "com/example/barrault/barrault/io/WarcDigest" "BASE32" "[C" (.ref ta)) (AT : AL Z Z.heap ta tk .char tb) (N0 : Fr Z.heap.size L0)
    (K : ∀ (T' : State) (L' : List Loc) (h' : Heap) (Y' : List Int32), Stand p l e R s m args below meth c T' L' cells slots → T'.heap = h' → Keep h0 h' [b, w] → (Y' = ys.set k (alf d)) → (Y'.length = N) → (Fld Z h' b "java/lang/AbstractStringBuilder" "value" "[B" (.ref w)) → (Fld Z h' b "java/lang/AbstractStringBuilder" "coder" "B" (.int (0 : Int32))) → (Fld Z h' b "java/lang/AbstractStringBuilder" "count" "I" (.int k1.toInt32)) → (AL Z h' w kw .byte (by8 Y')) → Fr Z.heap.size L' → Go p e below Fin' T' (mkF m 114 #[.val (.ref a), .val (.ref b), .val (.int B), .val (.int q), .val (.ref a), .val (.int n0), .val (.int i0), .val (.int x7)] [])) :
    Go p e below Fin' T0 (mkF m 93 #[.val (.ref a), .val (.ref b), .val (.int B), .val (.int q), .val (.ref a), .val (.int n0), .val (.int i0), .val (.int x7)] []) := by
  refine Go.iloadN (pc' := 94) C X0 d9_93 rfl rfl ?_
  refine Go.ifNo (pc' := 97) C X0 d9_94 ((if0 _ _).trans (tlt (x := (0 : Int32)) (y := q) hq).2.2.2) rfl ?_
  refine Go.aloadN (pc' := 98) C X0 d9_97 rfl rfl rfl ?_
  refine Go.getS (pc' := 101) (host := "") C X0 (Or.inl (tw hw 144 rfl)) Via.refl e0 (ST.ext O0) d9_98 rfl ?_
  intro T102 X102 e102
  refine Go.iloadN (pc' := 102) C X102 d9_101 rfl rfl ?_
  refine Go.iconst (z := (5 : Int32)) (pc' := 103) C X102 d9_102 rfl rfl ?_
  refine Go.iloadN (pc' := 104) C X102 d9_103 rfl rfl ?_
  refine Go.isub (pc' := 105) C X102 d9_104 rfl ?_
  refine Go.ishl (pc' := 106) C X102 d9_105 rfl ?_
  refine Go.bipush (z := (31 : Int32)) (pc' := 108) C X102 d9_106 rfl rfl ?_
  refine Go.iand (pc' := 109) C X102 d9_108 rfl ?_
  rw [← hd]
  refine Go.ldC (i := d.toNatClampNeg) (v := (.int (alf d))) (pc' := 110) C X102 e102 (AT.ext O0) (neg_of hg.1) rfl (htb d hg.1 hg.2) d9_109 rfl ?_
  refine Go.callV (y := mN21) (z := mN21) (a := b) (pc' := 113) C X102 (tw hw 146 rfl) (tw hw 147 rfl) (notFace_at C.2.1 (tw hw 149 rfl)) (tw hw 149 rfl) (tw hw 148 rfl) E0 (by decide) (rm_sap l Z a0 hw b w kw ys k ((alf d)) cP h0 O0 E0 F1 F2 F3 Aw SC (by rw [hyl]; exact hk) (by rw [hyl]; exact hN) (alf_r hg) hP hn hnw hbw) (tw hw 150 rfl) (tw hw 45 rfl) e102 (argsL := [(.int (alf d))]) (rest := []) (W := 0) rfl rfl pd_17 rfl (Nat.le_of_eq rfl) rfl (Nat.le_trans (by decide) hRf) (Nat.le_trans (by decide) hRl) hRc hRs d9_110 rfl ?_
  intro T103 v103 L103 X103 q103
  obtain ⟨rfl, N103q, K103, P103_0, P103_1, P103_2, P103_3⟩ := q103
  have N103 := Fr.app N0 N103q
  refine Go.pop (pc' := 114) C X103 d9_113 rfl rfl ?_
  have ct : Fld Z T103.heap b "java/lang/AbstractStringBuilder" "count" "I" (.int k1.toInt32) := by rw [← hk1]; exact P103_2
  have K104 : Keep h0 T103.heap [b, w] := ((Keep.refl h0 [b, w]).trans K103 (allS (Or.inl (by simp)) (allS (Or.inl (by simp)) all0)))
  exact K _ _ _ ((ys.set k (alf d))) X103 rfl K104 rfl (by rw [List.length_set]; exact hyl) P103_0 P103_1 ct P103_3 N103
theorem d9_114 : decode prog_23_method_5_code 114 = .ok (.aload_n 1, 1) := by decide +kernel
theorem d9_115 : decode prog_23_method_5_code 115 = .ok (.invokevirtual 63, 3) := by decide +kernel
theorem d9_118 : decode prog_23_method_5_code 118 = .ok (.bipush 8, 2) := by decide +kernel
theorem d9_120 : decode prog_23_method_5_code 120 = .ok (.irem, 1) := by decide +kernel
theorem d9_121 : decode prog_23_method_5_code 121 = .ok (.ifCond .eq 13, 3) := by decide +kernel
theorem d9_124 : decode prog_23_method_5_code 124 = .ok (.aload_n 1, 1) := by decide +kernel
theorem d9_125 : decode prog_23_method_5_code 125 = .ok (.bipush 61, 2) := by decide +kernel
theorem d9_127 : decode prog_23_method_5_code 127 = .ok (.invokevirtual 59, 3) := by decide +kernel
theorem d9_130 : decode prog_23_method_5_code 130 = .ok (.pop, 1) := by decide +kernel
theorem d9_131 : decode prog_23_method_5_code 131 = .ok (.goto (-17), 3) := by decide +kernel
theorem sg_pd {p : Program} {l : Launch} {e : Env} {R : Room} {s : State} {m : MethodId} {args : Array Value} {below : List Frame} {meth : Method} {c : Code} {Z : State} {a0 : Array Value} {Fin' : Outcome → State → Prop} (hw : ∀ d ∈ tables_1, d.before a0 Z = true) (a : Addr) (b : Addr) (w : Addr) (kw : ClassId) (ys : List Int32) (N : Nat) (k : Nat) (k1 : Nat) (cP : Int32) (B : Int32) (q : Int32) (n0 : Int32) (i0 : Int32) (x7 : Int32) (C : Cx p s m meth c Z "com/example/barrault/barrault/io/WarcDigest" "base32" prog_23_method_5_code 8 (some (.object "java/lang/String"))) (hRf : 3 ≤ R.frames) (hRl : 40 ≤ R.locals) (hk : k < N) (hyl : ys.length = N) (hN : N ≤ 16) (hk1 : k + 1 = k1) (hP : ¬ cP = (0 : Int32)) (hn : Z.heap.size ≤ b) (hnw : Z.heap.size ≤ w) (hbw : b ≠ w) (hq : ¬ (k.toInt32 % (8 : Int32)) = (0 : Int32))
    {T0 : State} {L0 : List Loc} {cells slots : Nat} {h0 : Heap} (hRc : cells ≤ R.cells) (hRs : slots ≤ R.slots) (X0 : Stand p l e R s m args below meth c T0 L0 cells slots) (e0 : T0.heap = h0) (O0 : Ext Z.heap h0) (E0 : Exa Z h0 b "java/lang/StringBuilder") (F1 : Fld Z h0 b "java/lang/AbstractStringBuilder" "value" "[B" (.ref w)) (F2 : Fld Z h0 b "java/lang/AbstractStringBuilder" "coder" "B" (.int (0 : Int32))) (F3 : Fld Z h0 b "java/lang/AbstractStringBuilder" "count" "I" (.int k.toInt32)) (Aw : AL Z h0 w kw .byte (by8 ys)) (SC : Sta Z Z.heap "java/lang/String" "COMPACT_STRINGS" "Z" (.int cP)) (N0 : Fr Z.heap.size L0)
    (K : ∀ (T' : State) (L' : List Loc) (h' : Heap) (Y' : List Int32), Stand p l e R s m args below meth c T' L' cells slots → T'.heap = h' → Keep h0 h' [b, w] → (Y' = ys.set k 61) → (Y'.length = N) → (Fld Z h' b "java/lang/AbstractStringBuilder" "value" "[B" (.ref w)) → (Fld Z h' b "java/lang/AbstractStringBuilder" "coder" "B" (.int (0 : Int32))) → (Fld Z h' b "java/lang/AbstractStringBuilder" "count" "I" (.int k1.toInt32)) → (AL Z h' w kw .byte (by8 Y')) → Fr Z.heap.size L' → Go p e below Fin' T' (mkF m 114 #[.val (.ref a), .val (.ref b), .val (.int B), .val (.int q), .val (.ref a), .val (.int n0), .val (.int i0), .val (.int x7)] [])) :
    Go p e below Fin' T0 (mkF m 114 #[.val (.ref a), .val (.ref b), .val (.int B), .val (.int q), .val (.ref a), .val (.int n0), .val (.int i0), .val (.int x7)] []) := by
  refine Go.aloadN (pc' := 115) C X0 d9_114 rfl rfl rfl ?_
  refine Go.callV (y := mN22) (z := mN22) (a := b) (pc' := 118) C X0 (tw hw 63 rfl) (tw hw 64 rfl) (notFace_at C.2.1 (tw hw 66 rfl)) (tw hw 66 rfl) (tw hw 65 rfl) E0 (by decide) (rm_sbl l Z a0 hw b k.toInt32 h0 O0 E0 F3) (tw hw 67 rfl) (tw hw 45 rfl) e0 (argsL := []) (rest := []) (W := 0) rfl rfl pd_6 rfl (Nat.le_of_eq rfl) rfl (Nat.le_trans (by decide) hRf) (Nat.le_trans (by decide) hRl) hRc hRs d9_115 rfl ?_
  intro T101 v101 L101 X101 q101
  obtain ⟨rfl, rfl, e101⟩ := q101
  have N101 := Fr.app N0 (Fr.nil _)
  refine Go.bipush (z := (8 : Int32)) (pc' := 120) C X101 d9_118 rfl rfl ?_
  refine Go.irem (pc' := 121) C X101 d9_120 (by decide) rfl ?_
  refine Go.ifNo (pc' := 124) C X101 d9_121 ((if0 _ _).trans (feq (x := (k.toInt32 % (8 : Int32))) (y := (0 : Int32)) hq).1) rfl ?_
  refine Go.aloadN (pc' := 125) C X101 d9_124 rfl rfl rfl ?_
  refine Go.bipush (z := (61 : Int32)) (pc' := 127) C X101 d9_125 rfl rfl ?_
  refine Go.callV (y := mN21) (z := mN21) (a := b) (pc' := 130) C X101 (tw hw 146 rfl) (tw hw 147 rfl) (notFace_at C.2.1 (tw hw 149 rfl)) (tw hw 149 rfl) (tw hw 148 rfl) E0 (by decide) (rm_sap l Z a0 hw b w kw ys k ((61 : Int32)) cP h0 O0 E0 F1 F2 F3 Aw SC (by rw [hyl]; exact hk) (by rw [hyl]; exact hN) (by decide) hP hn hnw hbw) (tw hw 150 rfl) (tw hw 45 rfl) e101 (argsL := [(.int (61 : Int32))]) (rest := []) (W := 0) rfl rfl pd_17 rfl (Nat.le_of_eq rfl) rfl (Nat.le_trans (by decide) hRf) (Nat.le_trans (by decide) hRl) hRc hRs d9_127 rfl ?_
  intro T103 v103 L103 X103 q103
  obtain ⟨rfl, N103q, K103, P103_0, P103_1, P103_2, P103_3⟩ := q103
  have N103 := Fr.app N101 N103q
  refine Go.pop (pc' := 131) C X103 d9_130 rfl rfl ?_
  refine Go.goto (pc' := 114) C X103 d9_131 (by decide) (by decide) ?_
  have ct : Fld Z T103.heap b "java/lang/AbstractStringBuilder" "count" "I" (.int k1.toInt32) := by rw [← hk1]; exact P103_2
  have K104 : Keep h0 T103.heap [b, w] := ((Keep.refl h0 [b, w]).trans K103 (allS (Or.inl (by simp)) (allS (Or.inl (by simp)) all0)))
  exact K _ _ _ ((ys.set k 61)) X103 rfl K104 rfl (by rw [List.length_set]; exact hyl) P103_0 P103_1 ct P103_3 N103
theorem pd_18 : parseMethodDescriptor "()Ljava/lang/String;" = some ⟨[], some (.object "java/lang/String")⟩ := by decide +kernel
theorem pf_9 : plainFor mN0 = true := plainFor_of_name (by first | (simp [plainName, overriddenIn]; done) | decide +kernel)
theorem d9_0 : decode prog_23_method_5_code 0 = .ok (.new 50, 3) := by decide +kernel
theorem d9_3 : decode prog_23_method_5_code 3 = .ok (.dup, 1) := by decide +kernel
theorem d9_4 : decode prog_23_method_5_code 4 = .ok (.aload_n 0, 1) := by decide +kernel
theorem d9_5 : decode prog_23_method_5_code 5 = .ok (.arraylength, 1) := by decide +kernel
theorem d9_6 : decode prog_23_method_5_code 6 = .ok (.iconst 4, 1) := by decide +kernel
theorem d9_7 : decode prog_23_method_5_code 7 = .ok (.iadd, 1) := by decide +kernel
theorem d9_8 : decode prog_23_method_5_code 8 = .ok (.iconst 5, 1) := by decide +kernel
theorem d9_9 : decode prog_23_method_5_code 9 = .ok (.idiv, 1) := by decide +kernel
theorem d9_10 : decode prog_23_method_5_code 10 = .ok (.bipush 8, 2) := by decide +kernel
theorem d9_12 : decode prog_23_method_5_code 12 = .ok (.imul, 1) := by decide +kernel
theorem d9_13 : decode prog_23_method_5_code 13 = .ok (.invokespecial 52, 3) := by decide +kernel
theorem d9_16 : decode prog_23_method_5_code 16 = .ok (.astore_n 1, 1) := by decide +kernel
theorem d9_17 : decode prog_23_method_5_code 17 = .ok (.iconst 0, 1) := by decide +kernel
theorem d9_18 : decode prog_23_method_5_code 18 = .ok (.istore_n 2, 1) := by decide +kernel
theorem d9_19 : decode prog_23_method_5_code 19 = .ok (.iconst 0, 1) := by decide +kernel
theorem d9_20 : decode prog_23_method_5_code 20 = .ok (.istore_n 3, 1) := by decide +kernel
theorem d9_21 : decode prog_23_method_5_code 21 = .ok (.aload_n 0, 1) := by decide +kernel
theorem d9_22 : decode prog_23_method_5_code 22 = .ok (.astore 4, 2) := by decide +kernel
theorem d9_24 : decode prog_23_method_5_code 24 = .ok (.aload 4, 2) := by decide +kernel
theorem d9_26 : decode prog_23_method_5_code 26 = .ok (.arraylength, 1) := by decide +kernel
theorem d9_27 : decode prog_23_method_5_code 27 = .ok (.istore 5, 2) := by decide +kernel
theorem d9_29 : decode prog_23_method_5_code 29 = .ok (.iconst 0, 1) := by decide +kernel
theorem d9_30 : decode prog_23_method_5_code 30 = .ok (.istore 6, 2) := by decide +kernel
theorem d9_134 : decode prog_23_method_5_code 134 = .ok (.aload_n 1, 1) := by decide +kernel
theorem d9_135 : decode prog_23_method_5_code 135 = .ok (.invokevirtual 67, 3) := by decide +kernel
theorem d9_138 : decode prog_23_method_5_code 138 = .ok (.areturn, 1) := by decide +kernel
def Q_b32_0 (Z : State) (a : Addr) (ka : ClassId) (cP : Int32) (ta : Addr) (tk : ClassId) (tb : List Value) (h0 : Heap) (rv : Option Value) (h : Heap) (L : List Loc) : Prop := ∃ s1 : Addr, ∃ v : Addr, ∃ kv : ClassId, rv = some (.ref s1) ∧ Fr Z.heap.size L ∧ Keep h0 h [] ∧ h0.size ≤ s1 ∧ h0.size ≤ v ∧ Exa Z h s1 "java/lang/String" ∧ Fld Z h s1 "java/lang/String" "value" "[B" (.ref v) ∧ Fld Z h s1 "java/lang/String" "coder" "B" (.int (0 : Int32)) ∧ AL Z h v kv .byte (by8 [])
theorem rm_b32_0 (l : Launch) (Z : State) (a0 : Array Value) (hw : ∀ d ∈ tables_1, d.before a0 Z = true) (a : Addr) (ka : ClassId) (cP : Int32) (ta : Addr) (tk : ClassId) (tb : List Value) (h0 : Heap) (O0 : Ext Z.heap h0) (A0 : AL Z h0 a ka .byte (by8 [])) (SC : Sta Z Z.heap "java/lang/String" "COMPACT_STRINGS" "Z" (.int cP)) (ST : Sta Z Z.heap "com/example/barrault/barrault/io/WarcDigest" "BASE32" "[C" (.ref ta)) (AT : AL Z Z.heap ta tk .char tb) (hP : ¬ cP = (0 : Int32)) (htb : ∀ c : Int32, 0 ≤ c.toInt → c.toInt < 32 → tb[c.toNatClampNeg]? = some (.int (alf c))) :
    Met1 l Z mN0 prog_23_method_5_code 8 (some (.object "java/lang/String")) ({ frames := 5, cells := 4, slots := 40, locals := 71 } : Room) #[(.ref a)] h0 (Q_b32_0 Z a ka cP ta tk tb h0) := by
  refine Met1.of_body (Ls := #[.val (.ref a), .unset, .unset, .unset, .unset, .unset, .unset, .unset]) pf_9 (fun m => by first | (simp [entryFrame, mkF, argsToLocals, Value.category]; done) | rfl) ?_
  intro p e s m below meth c T0 C X0 e0
  have N0 : Fr Z.heap.size [] := Fr.nil _
  refine Go.newO (pc' := 3) C X0 (tw hw 43 rfl) (tw hw 44 rfl) (tw hw 45 rfl) e0 (by decide) (by decide) d9_0 rfl ?_
  intro T101 h101 b101 X101 e101 g101 E101 A101 D101
  have n_b101 : Z.heap.size ≤ b101 := Nat.le_trans O0.1 (Nat.le_of_eq g101.symm)
  have z_b101 : h0.size ≤ b101 := Nat.le_trans (Nat.le_refl _) (Nat.le_of_eq g101.symm)
  have F101_value : Fld Z h101 b101 "java/lang/AbstractStringBuilder" "value" "[B" .null := D101 (Or.inl (tw hw 60 rfl)) (ty := (.array .byte)) (by decide)
  have F101_coder : Fld Z h101 b101 "java/lang/AbstractStringBuilder" "coder" "B" (.int (0 : Int32)) := D101 (Or.inl (tw hw 62 rfl)) (ty := .byte) (by decide)
  have F101_count : Fld Z h101 b101 "java/lang/AbstractStringBuilder" "count" "I" (.int (0 : Int32)) := D101 (Or.inl (tw hw 74 rfl)) (ty := .int) (by decide)
  refine Go.dup (pc' := 4) C X101 d9_3 rfl rfl ?_
  refine Go.aloadN (pc' := 5) C X101 d9_4 rfl rfl rfl ?_
  have c102 : AL Z h101 a ka .byte (by8 []) := (AL.ext E101 A0)
  refine Go.alen (z := (0 : Int32)) (pc' := 6) C X101 e101 c102 (by rw [by8_len]; rfl) d9_5 rfl ?_
  refine Go.iconst (z := (4 : Int32)) (pc' := 7) C X101 d9_6 rfl rfl ?_
  refine Go.iadd (pc' := 8) C X101 d9_7 rfl ?_
  rw [show ((0 : Int32) + (4 : Int32)) = (4 : Int32) from by decide]
  refine Go.iconst (z := (5 : Int32)) (pc' := 9) C X101 d9_8 rfl rfl ?_
  refine Go.idiv (pc' := 10) C X101 d9_9 (by decide) rfl ?_
  refine Go.bipush (z := (8 : Int32)) (pc' := 12) C X101 d9_10 rfl rfl ?_
  refine Go.imul (pc' := 13) C X101 d9_12 rfl ?_
  rw [show (((4 : Int32) / (5 : Int32)) * (8 : Int32)) = (0 : Nat).toInt32 from by decide]
  have O104 : Ext Z.heap h101 := (Ext.trans O0 E101)
  refine Go.callI (y := mN20) (a := b101) (pc' := 16) C X101 rfl (tw hw 46 rfl) (tw hw 47 rfl) (by decide) (rm_sbI l Z a0 hw b101 ((0 : Nat)) cP h101 O104 A101 F101_value F101_coder F101_count SC n_b101 hP (by decide)) (tw hw 48 rfl) (tw hw 45 rfl) e101 (argsL := [(.int (0 : Nat).toInt32)]) (rest := [(.ref b101)]) (W := 1) rfl rfl pd_5 rfl (Nat.le_of_eq rfl) rfl (by decide) (by decide) (by decide) (by decide) rfl d9_13 rfl ?_
  intro T103 v103 L103 X103 q103
  obtain ⟨w_103, kw_103, rfl, N103q, K103, B103_0, P103_0, P103_1, P103_2, P103_3, P103_4⟩ := q103
  have N103 := Fr.app N0 N103q
  have n_w_103 : Z.heap.size ≤ w_103 := Nat.le_trans O104.1 B103_0
  have z_w_103 : h0.size ≤ w_103 := Nat.le_trans (Nat.le_trans (Nat.le_refl _) E101.1) B103_0
  refine Go.astoreN (Ls' := #[.val (.ref a), .val (.ref b101), .unset, .unset, .unset, .unset, .unset, .unset]) (pc' := 17) C X103 d9_16 rfl rfl rfl ?_
  refine Go.iconst (z := (0 : Int32)) (pc' := 18) C X103 d9_17 rfl rfl ?_
  refine Go.istoreN (Ls' := #[.val (.ref a), .val (.ref b101), .val (.int (0 : Int32)), .unset, .unset, .unset, .unset, .unset]) (pc' := 19) C X103 d9_18 rfl rfl ?_
  refine Go.iconst (z := (0 : Int32)) (pc' := 20) C X103 d9_19 rfl rfl ?_
  refine Go.istoreN (Ls' := #[.val (.ref a), .val (.ref b101), .val (.int (0 : Int32)), .val (.int (0 : Int32)), .unset, .unset, .unset, .unset]) (pc' := 21) C X103 d9_20 rfl rfl ?_
  refine Go.aloadN (pc' := 22) C X103 d9_21 rfl rfl rfl ?_
  refine Go.astore (Ls' := #[.val (.ref a), .val (.ref b101), .val (.int (0 : Int32)), .val (.int (0 : Int32)), .val (.ref a), .unset, .unset, .unset]) (pc' := 24) C X103 d9_22 rfl rfl rfl ?_
  refine Go.aload (pc' := 26) C X103 d9_24 rfl rfl rfl ?_
  have ne105 : a ≠ b101 := Nat.ne_of_lt (Nat.lt_of_lt_of_le A0.lt (Nat.le_trans (Nat.le_refl _) (Nat.le_of_eq g101.symm)))
  have c106 : AL Z T103.heap a ka .byte (by8 []) := (AL.keep c102 K103 (ninS ne105 nin0))
  refine Go.alen (z := (0 : Int32)) (pc' := 27) C X103 rfl c106 (by rw [by8_len]; rfl) d9_26 rfl ?_
  refine Go.istore (Ls' := #[.val (.ref a), .val (.ref b101), .val (.int (0 : Int32)), .val (.int (0 : Int32)), .val (.ref a), .val (.int (0 : Int32)), .unset, .unset]) (pc' := 29) C X103 d9_27 rfl rfl ?_
  refine Go.iconst (z := (0 : Int32)) (pc' := 30) C X103 d9_29 rfl rfl ?_
  refine Go.istore (Ls' := #[.val (.ref a), .val (.ref b101), .val (.int (0 : Int32)), .val (.int (0 : Int32)), .val (.ref a), .val (.int (0 : Int32)), .val (.int (0 : Int32)), .unset]) (pc' := 32) C X103 d9_30 rfl rfl ?_
  refine Go.iload (pc' := 34) C X103 d9_32 rfl rfl ?_
  refine Go.iload (pc' := 36) C X103 d9_34 rfl rfl ?_
  refine Go.icmpYes (pc' := 93) C X103 d9_36 (flt (x := (0 : Int32)) (y := (0 : Int32)) (by decide)).2.1 (by decide) (by decide) ?_
  refine Go.iloadN (pc' := 94) C X103 d9_93 rfl rfl ?_
  refine Go.ifYes (pc' := 114) C X103 d9_94 ((if0 _ _).trans (flt (x := (0 : Int32)) (y := (0 : Int32)) (by decide)).2.2.2) (by decide) (by decide) ?_
  refine Go.aloadN (pc' := 115) C X103 d9_114 rfl rfl rfl ?_
  have c110 : Exa Z T103.heap b101 "java/lang/StringBuilder" := (Exa.keep A101 K103)
  have O111 : Ext Z.heap T103.heap := (Ext.keep O104 K103 (allS n_b101 all0))
  refine Go.callV (y := mN22) (z := mN22) (a := b101) (pc' := 118) C X103 (tw hw 63 rfl) (tw hw 64 rfl) (notFace_at C.2.1 (tw hw 66 rfl)) (tw hw 66 rfl) (tw hw 65 rfl) c110 (by decide) (rm_sbl l Z a0 hw b101 ((0 : Int32)) T103.heap O111 c110 P103_2) (tw hw 67 rfl) (tw hw 45 rfl) rfl (argsL := []) (rest := []) (W := 0) rfl rfl pd_6 rfl (Nat.le_of_eq rfl) rfl (by decide) (by decide) (by decide) (by decide) d9_115 rfl ?_
  intro T109 v109 L109 X109 q109
  obtain ⟨rfl, rfl, e109⟩ := q109
  have N109 := Fr.app N103 (Fr.nil _)
  refine Go.bipush (z := (8 : Int32)) (pc' := 120) C X109 d9_118 rfl rfl ?_
  refine Go.irem (pc' := 121) C X109 d9_120 (by decide) rfl ?_
  rw [show ((0 : Int32) % (8 : Int32)) = (0 : Int32) from by decide]
  refine Go.ifYes (pc' := 134) C X109 d9_121 ((if0 _ _).trans (teq (x := (0 : Int32)) (y := (0 : Int32)) (by decide)).1) (by decide) (by decide) ?_
  refine Go.aloadN (pc' := 135) C X109 d9_134 rfl rfl rfl ?_
  refine Go.callV (y := mN23) (z := mN23) (a := b101) (pc' := 138) C X109 (tw hw 75 rfl) (tw hw 76 rfl) (notFace_at C.2.1 (tw hw 78 rfl)) (tw hw 78 rfl) (tw hw 77 rfl) c110 (by decide) (rm_tos l Z a0 hw b101 w_103 kw_103 ((List.replicate (0 : Nat) 0)) cP T103.heap O111 c110 P103_0 P103_1 P103_2 P103_3 P103_4 SC (by simp) hP) (tw hw 79 rfl) (tw hw 45 rfl) e109 (argsL := []) (rest := []) (W := 0) rfl rfl pd_18 rfl (Nat.le_of_eq rfl) rfl (by decide) (by decide) (by decide) (by decide) d9_135 rfl ?_
  intro T113 v113 L113 X113 q113
  obtain ⟨s1_113, v_113, kv_113, rfl, N113q, K113, B113_0, B113_1, P113_0, P113_1, P113_2, P113_3⟩ := q113
  have N113 := Fr.app N109 N113q
  have n_s1_113 : Z.heap.size ≤ s1_113 := Nat.le_trans O111.1 B113_0
  have z_s1_113 : h0.size ≤ s1_113 := Nat.le_trans (Nat.le_trans (Nat.le_trans (Nat.le_refl _) E101.1) K103.1) B113_0
  have n_v_113 : Z.heap.size ≤ v_113 := Nat.le_trans O111.1 B113_1
  have z_v_113 : h0.size ≤ v_113 := Nat.le_trans (Nat.le_trans (Nat.le_trans (Nat.le_refl _) E101.1) K103.1) B113_1
  have K114 : Keep h0 T113.heap [] := ((((Keep.refl h0 []).ext E101).trans K103 (allS (Or.inr z_b101) all0)).trans K113 all0)
  exact Go.retA C X113 rfl d9_138 rfl rfl rfl ⟨s1_113, v_113, kv_113, rfl, N113, K114, z_s1_113, z_v_113, P113_0, P113_1, P113_2, P113_3⟩ (by decide) (by decide)
def Q_b32_1 (Z : State) (a : Addr) (ka : ClassId) (cP : Int32) (ta : Addr) (tk : ClassId) (tb : List Value) (y0 : Int32) (h0 : Heap) (rv : Option Value) (h : Heap) (L : List Loc) : Prop := ∃ s1 : Addr, ∃ v : Addr, ∃ kv : ClassId, ∃ c0 : Int32, ∃ c1 : Int32, rv = some (.ref s1) ∧ Fr Z.heap.size L ∧ Keep h0 h [] ∧ h0.size ≤ s1 ∧ h0.size ≤ v ∧ Exa Z h s1 "java/lang/String" ∧ Fld Z h s1 "java/lang/String" "value" "[B" (.ref v) ∧ Fld Z h s1 "java/lang/String" "coder" "B" (.int (0 : Int32)) ∧ AL Z h v kv .byte (by8 [(alf c0), (alf c1), 61, 61, 61, 61, 61, 61]) ∧ (c0.toInt = ((0) * 256 + y0.toInt % 256) / 8 % 32) ∧ (c1.toInt = (y0.toInt % 256) * 4 % 32)
theorem rm_b32_1 (l : Launch) (Z : State) (a0 : Array Value) (hw : ∀ d ∈ tables_1, d.before a0 Z = true) (a : Addr) (ka : ClassId) (cP : Int32) (ta : Addr) (tk : ClassId) (tb : List Value) (y0 : Int32) (h0 : Heap) (O0 : Ext Z.heap h0) (A0 : AL Z h0 a ka .byte (by8 [y0])) (SC : Sta Z Z.heap "java/lang/String" "COMPACT_STRINGS" "Z" (.int cP)) (ST : Sta Z Z.heap "com/example/barrault/barrault/io/WarcDigest" "BASE32" "[C" (.ref ta)) (AT : AL Z Z.heap ta tk .char tb) (hP : ¬ cP = (0 : Int32)) (htb : ∀ c : Int32, 0 ≤ c.toInt → c.toInt < 32 → tb[c.toNatClampNeg]? = some (.int (alf c))) :
    Met1 l Z mN0 prog_23_method_5_code 8 (some (.object "java/lang/String")) ({ frames := 5, cells := 4, slots := 40, locals := 71 } : Room) #[(.ref a)] h0 (Q_b32_1 Z a ka cP ta tk tb y0 h0) := by
  refine Met1.of_body (Ls := #[.val (.ref a), .unset, .unset, .unset, .unset, .unset, .unset, .unset]) pf_9 (fun m => by first | (simp [entryFrame, mkF, argsToLocals, Value.category]; done) | rfl) ?_
  intro p e s m below meth c T0 C X0 e0
  have N0 : Fr Z.heap.size [] := Fr.nil _
  refine Go.newO (pc' := 3) C X0 (tw hw 43 rfl) (tw hw 44 rfl) (tw hw 45 rfl) e0 (by decide) (by decide) d9_0 rfl ?_
  intro T101 h101 b101 X101 e101 g101 E101 A101 D101
  have n_b101 : Z.heap.size ≤ b101 := Nat.le_trans O0.1 (Nat.le_of_eq g101.symm)
  have z_b101 : h0.size ≤ b101 := Nat.le_trans (Nat.le_refl _) (Nat.le_of_eq g101.symm)
  have F101_value : Fld Z h101 b101 "java/lang/AbstractStringBuilder" "value" "[B" .null := D101 (Or.inl (tw hw 60 rfl)) (ty := (.array .byte)) (by decide)
  have F101_coder : Fld Z h101 b101 "java/lang/AbstractStringBuilder" "coder" "B" (.int (0 : Int32)) := D101 (Or.inl (tw hw 62 rfl)) (ty := .byte) (by decide)
  have F101_count : Fld Z h101 b101 "java/lang/AbstractStringBuilder" "count" "I" (.int (0 : Int32)) := D101 (Or.inl (tw hw 74 rfl)) (ty := .int) (by decide)
  refine Go.dup (pc' := 4) C X101 d9_3 rfl rfl ?_
  refine Go.aloadN (pc' := 5) C X101 d9_4 rfl rfl rfl ?_
  have c102 : AL Z h101 a ka .byte (by8 [y0]) := (AL.ext E101 A0)
  refine Go.alen (z := (1 : Int32)) (pc' := 6) C X101 e101 c102 (by rw [by8_len]; rfl) d9_5 rfl ?_
  refine Go.iconst (z := (4 : Int32)) (pc' := 7) C X101 d9_6 rfl rfl ?_
  refine Go.iadd (pc' := 8) C X101 d9_7 rfl ?_
  rw [show ((1 : Int32) + (4 : Int32)) = (5 : Int32) from by decide]
  refine Go.iconst (z := (5 : Int32)) (pc' := 9) C X101 d9_8 rfl rfl ?_
  refine Go.idiv (pc' := 10) C X101 d9_9 (by decide) rfl ?_
  refine Go.bipush (z := (8 : Int32)) (pc' := 12) C X101 d9_10 rfl rfl ?_
  refine Go.imul (pc' := 13) C X101 d9_12 rfl ?_
  rw [show (((5 : Int32) / (5 : Int32)) * (8 : Int32)) = (8 : Nat).toInt32 from by decide]
  have O104 : Ext Z.heap h101 := (Ext.trans O0 E101)
  refine Go.callI (y := mN20) (a := b101) (pc' := 16) C X101 rfl (tw hw 46 rfl) (tw hw 47 rfl) (by decide) (rm_sbI l Z a0 hw b101 ((8 : Nat)) cP h101 O104 A101 F101_value F101_coder F101_count SC n_b101 hP (by decide)) (tw hw 48 rfl) (tw hw 45 rfl) e101 (argsL := [(.int (8 : Nat).toInt32)]) (rest := [(.ref b101)]) (W := 1) rfl rfl pd_5 rfl (Nat.le_of_eq rfl) rfl (by decide) (by decide) (by decide) (by decide) rfl d9_13 rfl ?_
  intro T103 v103 L103 X103 q103
  obtain ⟨w_103, kw_103, rfl, N103q, K103, B103_0, P103_0, P103_1, P103_2, P103_3, P103_4⟩ := q103
  have N103 := Fr.app N0 N103q
  have n_w_103 : Z.heap.size ≤ w_103 := Nat.le_trans O104.1 B103_0
  have z_w_103 : h0.size ≤ w_103 := Nat.le_trans (Nat.le_trans (Nat.le_refl _) E101.1) B103_0
  refine Go.astoreN (Ls' := #[.val (.ref a), .val (.ref b101), .unset, .unset, .unset, .unset, .unset, .unset]) (pc' := 17) C X103 d9_16 rfl rfl rfl ?_
  refine Go.iconst (z := (0 : Int32)) (pc' := 18) C X103 d9_17 rfl rfl ?_
  refine Go.istoreN (Ls' := #[.val (.ref a), .val (.ref b101), .val (.int (0 : Int32)), .unset, .unset, .unset, .unset, .unset]) (pc' := 19) C X103 d9_18 rfl rfl ?_
  refine Go.iconst (z := (0 : Int32)) (pc' := 20) C X103 d9_19 rfl rfl ?_
  refine Go.istoreN (Ls' := #[.val (.ref a), .val (.ref b101), .val (.int (0 : Int32)), .val (.int (0 : Int32)), .unset, .unset, .unset, .unset]) (pc' := 21) C X103 d9_20 rfl rfl ?_
  refine Go.aloadN (pc' := 22) C X103 d9_21 rfl rfl rfl ?_
  refine Go.astore (Ls' := #[.val (.ref a), .val (.ref b101), .val (.int (0 : Int32)), .val (.int (0 : Int32)), .val (.ref a), .unset, .unset, .unset]) (pc' := 24) C X103 d9_22 rfl rfl rfl ?_
  refine Go.aload (pc' := 26) C X103 d9_24 rfl rfl rfl ?_
  have ne105 : a ≠ b101 := Nat.ne_of_lt (Nat.lt_of_lt_of_le A0.lt (Nat.le_trans (Nat.le_refl _) (Nat.le_of_eq g101.symm)))
  have c106 : AL Z T103.heap a ka .byte (by8 [y0]) := (AL.keep c102 K103 (ninS ne105 nin0))
  refine Go.alen (z := (1 : Int32)) (pc' := 27) C X103 rfl c106 (by rw [by8_len]; rfl) d9_26 rfl ?_
  refine Go.istore (Ls' := #[.val (.ref a), .val (.ref b101), .val (.int (0 : Int32)), .val (.int (0 : Int32)), .val (.ref a), .val (.int (1 : Int32)), .unset, .unset]) (pc' := 29) C X103 d9_27 rfl rfl ?_
  refine Go.iconst (z := (0 : Int32)) (pc' := 30) C X103 d9_29 rfl rfl ?_
  refine Go.istore (Ls' := #[.val (.ref a), .val (.ref b101), .val (.int (0 : Int32)), .val (.int (0 : Int32)), .val (.ref a), .val (.int (1 : Int32)), .val (.int (0 : Int32)), .unset]) (pc' := 32) C X103 d9_30 rfl rfl ?_
  obtain ⟨B0, hB0⟩ : ∃ z, z = (((0 : Int32) <<< ((8 : Int32) &&& 31)) ||| (y0.toInt8.toInt32 &&& (255 : Int32))) := ⟨_, rfl⟩
  have vB0 := bufv hB0
  have O108 : Ext Z.heap T103.heap := (Ext.keep O104 K103 (allS n_b101 all0))
  refine sg_in hw a ka b101 (0 : Int32) B0 (0 : Int32) (8 : Int32) (1 : Int32) (0 : Int32) Slot.unset y0 0 (by8 [y0]) C (by decide) (by decide) (by decide) (by decide) (by decide) (by8_get rfl) One.u hB0 (by decide) (by decide) (by decide) X103 rfl O108 c106 N103 ?_
  obtain ⟨d0, hd0⟩ : ∃ z, z = (((B0.toUInt32 >>> ((3 : Int32) &&& 31).toUInt32).toInt32) &&& (31 : Int32)) := ⟨_, rfl⟩
  have ud0 := ixv (3 : Int32) 3 8 (by decide) (by decide) (by decide) (by decide) hd0
  have gd0 := c_rng ud0
  have lY0 : ((List.replicate (8 : Nat) 0) : List Int32).length = 8 := by simp
  have ct0 : Fld Z T103.heap b101 "java/lang/AbstractStringBuilder" "count" "I" (.int (0 : Nat).toInt32) := P103_2
  have ne109 : b101 ≠ w_103 := Nat.ne_of_lt (Nat.lt_of_lt_of_le A101.lt (Nat.le_trans (Nat.le_refl _) B103_0))
  have c110 : Exa Z T103.heap b101 "java/lang/StringBuilder" := (Exa.keep A101 K103)
  refine sg_ch hw a b101 w_103 kw_103 (List.replicate (8 : Nat) 0) (8 : Nat) (0 : Nat) (1 : Nat) cP ta tk tb B0 (8 : Int32) (3 : Int32) (1 : Int32) (0 : Int32) y0.toInt8.toInt32 d0 C (by decide) (by decide) (by decide) lY0 (by decide) rfl hP n_b101 n_w_103 ne109 htb (by decide) (by decide) hd0 gd0 (by decide) (by decide) X103 rfl O108 c110 P103_0 P103_1 ct0 P103_4 SC ST AT N103 ?_
  intro T111 L111 h111 Y1 X111 e111 K111 j111_0 j111_1 P111_0 P111_1 P111_2 P111_3 N111
  have O113 : Ext Z.heap h111 := (Ext.keep O108 K111 (allS n_b101 (allS n_w_103 all0)))
  refine sg_nx hw a b101 B0 (3 : Int32) (1 : Int32) (0 : Int32) (1 : Int32) y0.toInt8.toInt32 C (by decide) (by decide) (by decide) (by decide) (by decide) (by decide) X111 e111 O113  N111 ?_
  refine Go.iload (pc' := 34) C X111 d9_32 rfl rfl ?_
  refine Go.iload (pc' := 36) C X111 d9_34 rfl rfl ?_
  refine Go.icmpYes (pc' := 93) C X111 d9_36 (flt (x := (1 : Int32)) (y := (1 : Int32)) (by decide)).2.1 (by decide) (by decide) ?_
  obtain ⟨d1, hd1⟩ : ∃ z, z = ((B0 <<< (((5 : Int32) - (3 : Int32)) &&& 31)) &&& (31 : Int32)) := ⟨_, rfl⟩
  have ud1 := ixl ((5 : Int32) - (3 : Int32)) 2 4 (by decide) (by decide) (by decide) hd1
  have gd1 := c_rng ud1
  have c115 : Exa Z h111 b101 "java/lang/StringBuilder" := (Exa.keep c110 K111)
  refine sg_tl hw a b101 w_103 kw_103 Y1 (8 : Nat) (1 : Nat) (2 : Nat) cP ta tk tb B0 (3 : Int32) (1 : Int32) (1 : Int32) y0.toInt8.toInt32 d1 C (by decide) (by decide) (by decide) j111_1 (by decide) rfl hP n_b101 n_w_103 ne109 htb (by decide) hd1 gd1 (by decide) (by decide) X111 e111 O113 c115 P111_0 P111_1 P111_2 P111_3 SC ST AT N111 ?_
  intro T116 L116 h116 Y2 X116 e116 K116 j116_0 j116_1 P116_0 P116_1 P116_2 P116_3 N116
  have c117 : Exa Z h116 b101 "java/lang/StringBuilder" := (Exa.keep c115 K116)
  have O119 : Ext Z.heap h116 := (Ext.keep O113 K116 (allS n_b101 (allS n_w_103 all0)))
  refine sg_pd hw a b101 w_103 kw_103 Y2 (8 : Nat) (2 : Nat) (3 : Nat) cP B0 (3 : Int32) (1 : Int32) (1 : Int32) y0.toInt8.toInt32 C (by decide) (by decide) (by decide) j116_1 (by decide) rfl hP n_b101 n_w_103 ne109 (by decide) (by decide) (by decide) X116 e116 O119 c117 P116_0 P116_1 P116_2 P116_3 SC N116 ?_
  intro T118 L118 h118 Y3 X118 e118 K118 j118_0 j118_1 P118_0 P118_1 P118_2 P118_3 N118
  have c120 : Exa Z h118 b101 "java/lang/StringBuilder" := (Exa.keep c117 K118)
  have O122 : Ext Z.heap h118 := (Ext.keep O119 K118 (allS n_b101 (allS n_w_103 all0)))
  refine sg_pd hw a b101 w_103 kw_103 Y3 (8 : Nat) (3 : Nat) (4 : Nat) cP B0 (3 : Int32) (1 : Int32) (1 : Int32) y0.toInt8.toInt32 C (by decide) (by decide) (by decide) j118_1 (by decide) rfl hP n_b101 n_w_103 ne109 (by decide) (by decide) (by decide) X118 e118 O122 c120 P118_0 P118_1 P118_2 P118_3 SC N118 ?_
  intro T121 L121 h121 Y4 X121 e121 K121 j121_0 j121_1 P121_0 P121_1 P121_2 P121_3 N121
  have c123 : Exa Z h121 b101 "java/lang/StringBuilder" := (Exa.keep c120 K121)
  have O125 : Ext Z.heap h121 := (Ext.keep O122 K121 (allS n_b101 (allS n_w_103 all0)))
  refine sg_pd hw a b101 w_103 kw_103 Y4 (8 : Nat) (4 : Nat) (5 : Nat) cP B0 (3 : Int32) (1 : Int32) (1 : Int32) y0.toInt8.toInt32 C (by decide) (by decide) (by decide) j121_1 (by decide) rfl hP n_b101 n_w_103 ne109 (by decide) (by decide) (by decide) X121 e121 O125 c123 P121_0 P121_1 P121_2 P121_3 SC N121 ?_
  intro T124 L124 h124 Y5 X124 e124 K124 j124_0 j124_1 P124_0 P124_1 P124_2 P124_3 N124
  have c126 : Exa Z h124 b101 "java/lang/StringBuilder" := (Exa.keep c123 K124)
  have O128 : Ext Z.heap h124 := (Ext.keep O125 K124 (allS n_b101 (allS n_w_103 all0)))
  refine sg_pd hw a b101 w_103 kw_103 Y5 (8 : Nat) (5 : Nat) (6 : Nat) cP B0 (3 : Int32) (1 : Int32) (1 : Int32) y0.toInt8.toInt32 C (by decide) (by decide) (by decide) j124_1 (by decide) rfl hP n_b101 n_w_103 ne109 (by decide) (by decide) (by decide) X124 e124 O128 c126 P124_0 P124_1 P124_2 P124_3 SC N124 ?_
  intro T127 L127 h127 Y6 X127 e127 K127 j127_0 j127_1 P127_0 P127_1 P127_2 P127_3 N127
  have c129 : Exa Z h127 b101 "java/lang/StringBuilder" := (Exa.keep c126 K127)
  have O131 : Ext Z.heap h127 := (Ext.keep O128 K127 (allS n_b101 (allS n_w_103 all0)))
  refine sg_pd hw a b101 w_103 kw_103 Y6 (8 : Nat) (6 : Nat) (7 : Nat) cP B0 (3 : Int32) (1 : Int32) (1 : Int32) y0.toInt8.toInt32 C (by decide) (by decide) (by decide) j127_1 (by decide) rfl hP n_b101 n_w_103 ne109 (by decide) (by decide) (by decide) X127 e127 O131 c129 P127_0 P127_1 P127_2 P127_3 SC N127 ?_
  intro T130 L130 h130 Y7 X130 e130 K130 j130_0 j130_1 P130_0 P130_1 P130_2 P130_3 N130
  have c132 : Exa Z h130 b101 "java/lang/StringBuilder" := (Exa.keep c129 K130)
  have O134 : Ext Z.heap h130 := (Ext.keep O131 K130 (allS n_b101 (allS n_w_103 all0)))
  refine sg_pd hw a b101 w_103 kw_103 Y7 (8 : Nat) (7 : Nat) (8 : Nat) cP B0 (3 : Int32) (1 : Int32) (1 : Int32) y0.toInt8.toInt32 C (by decide) (by decide) (by decide) j130_1 (by decide) rfl hP n_b101 n_w_103 ne109 (by decide) (by decide) (by decide) X130 e130 O134 c132 P130_0 P130_1 P130_2 P130_3 SC N130 ?_
  intro T133 L133 h133 Y8 X133 e133 K133 j133_0 j133_1 P133_0 P133_1 P133_2 P133_3 N133
  refine Go.aloadN (pc' := 115) C X133 d9_114 rfl rfl rfl ?_
  have c136 : Exa Z h133 b101 "java/lang/StringBuilder" := (Exa.keep c132 K133)
  have O137 : Ext Z.heap h133 := (Ext.keep O134 K133 (allS n_b101 (allS n_w_103 all0)))
  refine Go.callV (y := mN22) (z := mN22) (a := b101) (pc' := 118) C X133 (tw hw 63 rfl) (tw hw 64 rfl) (notFace_at C.2.1 (tw hw 66 rfl)) (tw hw 66 rfl) (tw hw 65 rfl) c136 (by decide) (rm_sbl l Z a0 hw b101 ((8 : Nat).toInt32) h133 O137 c136 P133_2) (tw hw 67 rfl) (tw hw 45 rfl) e133 (argsL := []) (rest := []) (W := 0) rfl rfl pd_6 rfl (Nat.le_of_eq rfl) rfl (by decide) (by decide) (by decide) (by decide) d9_115 rfl ?_
  intro T135 v135 L135 X135 q135
  obtain ⟨rfl, rfl, e135⟩ := q135
  have N135 := Fr.app N133 (Fr.nil _)
  rw [show (8 : Nat).toInt32 = (8 : Int32) from rfl]
  refine Go.bipush (z := (8 : Int32)) (pc' := 120) C X135 d9_118 rfl rfl ?_
  refine Go.irem (pc' := 121) C X135 d9_120 (by decide) rfl ?_
  rw [show ((8 : Int32) % (8 : Int32)) = (0 : Int32) from by decide]
  refine Go.ifYes (pc' := 134) C X135 d9_121 ((if0 _ _).trans (teq (x := (0 : Int32)) (y := (0 : Int32)) (by decide)).1) (by decide) (by decide) ?_
  have ctE : Fld Z h133 b101 "java/lang/AbstractStringBuilder" "count" "I" (.int Y8.length.toInt32) := by rw [j133_1]; exact P133_2
  refine Go.aloadN (pc' := 135) C X135 d9_134 rfl rfl rfl ?_
  have c140 : Exa Z h133 w_103 "[B" := (Exa.keep (Exa.keep (Exa.keep (Exa.keep (Exa.keep (Exa.keep (Exa.keep (Exa.keep P103_3 K111) K116) K118) K121) K124) K127) K130) K133)
  refine Go.callV (y := mN23) (z := mN23) (a := b101) (pc' := 138) C X135 (tw hw 75 rfl) (tw hw 76 rfl) (notFace_at C.2.1 (tw hw 78 rfl)) (tw hw 78 rfl) (tw hw 77 rfl) c136 (by decide) (rm_tos l Z a0 hw b101 w_103 kw_103 Y8 cP h133 O137 c136 P133_0 P133_1 ctE c140 P133_3 SC (by rw [j133_1]; decide) hP) (tw hw 79 rfl) (tw hw 45 rfl) e135 (argsL := []) (rest := []) (W := 0) rfl rfl pd_18 rfl (Nat.le_of_eq rfl) rfl (by decide) (by decide) (by decide) (by decide) d9_135 rfl ?_
  intro T139 v139 L139 X139 q139
  obtain ⟨s1_139, v_139, kv_139, rfl, N139q, K139, B139_0, B139_1, P139_0, P139_1, P139_2, P139_3⟩ := q139
  have N139 := Fr.app N135 N139q
  have n_s1_139 : Z.heap.size ≤ s1_139 := Nat.le_trans O137.1 B139_0
  have z_s1_139 : h0.size ≤ s1_139 := Nat.le_trans (Nat.le_trans (Nat.le_trans (Nat.le_trans (Nat.le_trans (Nat.le_trans (Nat.le_trans (Nat.le_trans (Nat.le_trans (Nat.le_trans (Nat.le_trans (Nat.le_refl _) E101.1) K103.1) K111.1) K116.1) K118.1) K121.1) K124.1) K127.1) K130.1) K133.1) B139_0
  have n_v_139 : Z.heap.size ≤ v_139 := Nat.le_trans O137.1 B139_1
  have z_v_139 : h0.size ≤ v_139 := Nat.le_trans (Nat.le_trans (Nat.le_trans (Nat.le_trans (Nat.le_trans (Nat.le_trans (Nat.le_trans (Nat.le_trans (Nat.le_trans (Nat.le_trans (Nat.le_trans (Nat.le_refl _) E101.1) K103.1) K111.1) K116.1) K118.1) K121.1) K124.1) K127.1) K130.1) K133.1) B139_1
  have K141 : Keep h0 T139.heap [] := ((((((((((((Keep.refl h0 []).ext E101).trans K103 (allS (Or.inr z_b101) all0)).trans K111 (allS (Or.inr z_b101) (allS (Or.inr z_w_103) all0))).trans K116 (allS (Or.inr z_b101) (allS (Or.inr z_w_103) all0))).trans K118 (allS (Or.inr z_b101) (allS (Or.inr z_w_103) all0))).trans K121 (allS (Or.inr z_b101) (allS (Or.inr z_w_103) all0))).trans K124 (allS (Or.inr z_b101) (allS (Or.inr z_w_103) all0))).trans K127 (allS (Or.inr z_b101) (allS (Or.inr z_w_103) all0))).trans K130 (allS (Or.inr z_b101) (allS (Or.inr z_w_103) all0))).trans K133 (allS (Or.inr z_b101) (allS (Or.inr z_w_103) all0))).trans K139 all0)
  exact Go.retA C X139 rfl d9_138 rfl rfl rfl ⟨s1_139, v_139, kv_139, d0, d1, rfl, N139, K141, z_s1_139, z_v_139, P139_0, P139_1, P139_2, (by have q := P139_3; rw [j133_0, j130_0, j127_0, j124_0, j121_0, j118_0, j116_0, j111_0] at q; exact q), (qv ud0 vB0 p0z), (ql ud1 vB0)⟩ (by decide) (by decide)
def Q_b32_2 (Z : State) (a : Addr) (ka : ClassId) (cP : Int32) (ta : Addr) (tk : ClassId) (tb : List Value) (y0 : Int32) (y1 : Int32) (h0 : Heap) (rv : Option Value) (h : Heap) (L : List Loc) : Prop := ∃ s1 : Addr, ∃ v : Addr, ∃ kv : ClassId, ∃ c0 : Int32, ∃ c1 : Int32, ∃ c2 : Int32, ∃ c3 : Int32, rv = some (.ref s1) ∧ Fr Z.heap.size L ∧ Keep h0 h [] ∧ h0.size ≤ s1 ∧ h0.size ≤ v ∧ Exa Z h s1 "java/lang/String" ∧ Fld Z h s1 "java/lang/String" "value" "[B" (.ref v) ∧ Fld Z h s1 "java/lang/String" "coder" "B" (.int (0 : Int32)) ∧ AL Z h v kv .byte (by8 [(alf c0), (alf c1), (alf c2), (alf c3), 61, 61, 61, 61]) ∧ (c0.toInt = ((0) * 256 + y0.toInt % 256) / 8 % 32) ∧ (c1.toInt = ((y0.toInt % 16) * 256 + y1.toInt % 256) / 64 % 32) ∧ (c2.toInt = ((y0.toInt % 16) * 256 + y1.toInt % 256) / 2 % 32) ∧ (c3.toInt = (y1.toInt % 256) * 16 % 32)
theorem rm_b32_2 (l : Launch) (Z : State) (a0 : Array Value) (hw : ∀ d ∈ tables_1, d.before a0 Z = true) (a : Addr) (ka : ClassId) (cP : Int32) (ta : Addr) (tk : ClassId) (tb : List Value) (y0 : Int32) (y1 : Int32) (h0 : Heap) (O0 : Ext Z.heap h0) (A0 : AL Z h0 a ka .byte (by8 [y0, y1])) (SC : Sta Z Z.heap "java/lang/String" "COMPACT_STRINGS" "Z" (.int cP)) (ST : Sta Z Z.heap "com/example/barrault/barrault/io/WarcDigest" "BASE32" "[C" (.ref ta)) (AT : AL Z Z.heap ta tk .char tb) (hP : ¬ cP = (0 : Int32)) (htb : ∀ c : Int32, 0 ≤ c.toInt → c.toInt < 32 → tb[c.toNatClampNeg]? = some (.int (alf c))) :
    Met1 l Z mN0 prog_23_method_5_code 8 (some (.object "java/lang/String")) ({ frames := 5, cells := 4, slots := 40, locals := 71 } : Room) #[(.ref a)] h0 (Q_b32_2 Z a ka cP ta tk tb y0 y1 h0) := by
  refine Met1.of_body (Ls := #[.val (.ref a), .unset, .unset, .unset, .unset, .unset, .unset, .unset]) pf_9 (fun m => by first | (simp [entryFrame, mkF, argsToLocals, Value.category]; done) | rfl) ?_
  intro p e s m below meth c T0 C X0 e0
  have N0 : Fr Z.heap.size [] := Fr.nil _
  refine Go.newO (pc' := 3) C X0 (tw hw 43 rfl) (tw hw 44 rfl) (tw hw 45 rfl) e0 (by decide) (by decide) d9_0 rfl ?_
  intro T101 h101 b101 X101 e101 g101 E101 A101 D101
  have n_b101 : Z.heap.size ≤ b101 := Nat.le_trans O0.1 (Nat.le_of_eq g101.symm)
  have z_b101 : h0.size ≤ b101 := Nat.le_trans (Nat.le_refl _) (Nat.le_of_eq g101.symm)
  have F101_value : Fld Z h101 b101 "java/lang/AbstractStringBuilder" "value" "[B" .null := D101 (Or.inl (tw hw 60 rfl)) (ty := (.array .byte)) (by decide)
  have F101_coder : Fld Z h101 b101 "java/lang/AbstractStringBuilder" "coder" "B" (.int (0 : Int32)) := D101 (Or.inl (tw hw 62 rfl)) (ty := .byte) (by decide)
  have F101_count : Fld Z h101 b101 "java/lang/AbstractStringBuilder" "count" "I" (.int (0 : Int32)) := D101 (Or.inl (tw hw 74 rfl)) (ty := .int) (by decide)
  refine Go.dup (pc' := 4) C X101 d9_3 rfl rfl ?_
  refine Go.aloadN (pc' := 5) C X101 d9_4 rfl rfl rfl ?_
  have c102 : AL Z h101 a ka .byte (by8 [y0, y1]) := (AL.ext E101 A0)
  refine Go.alen (z := (2 : Int32)) (pc' := 6) C X101 e101 c102 (by rw [by8_len]; rfl) d9_5 rfl ?_
  refine Go.iconst (z := (4 : Int32)) (pc' := 7) C X101 d9_6 rfl rfl ?_
  refine Go.iadd (pc' := 8) C X101 d9_7 rfl ?_
  rw [show ((2 : Int32) + (4 : Int32)) = (6 : Int32) from by decide]
  refine Go.iconst (z := (5 : Int32)) (pc' := 9) C X101 d9_8 rfl rfl ?_
  refine Go.idiv (pc' := 10) C X101 d9_9 (by decide) rfl ?_
  refine Go.bipush (z := (8 : Int32)) (pc' := 12) C X101 d9_10 rfl rfl ?_
  refine Go.imul (pc' := 13) C X101 d9_12 rfl ?_
  rw [show (((6 : Int32) / (5 : Int32)) * (8 : Int32)) = (8 : Nat).toInt32 from by decide]
  have O104 : Ext Z.heap h101 := (Ext.trans O0 E101)
  refine Go.callI (y := mN20) (a := b101) (pc' := 16) C X101 rfl (tw hw 46 rfl) (tw hw 47 rfl) (by decide) (rm_sbI l Z a0 hw b101 ((8 : Nat)) cP h101 O104 A101 F101_value F101_coder F101_count SC n_b101 hP (by decide)) (tw hw 48 rfl) (tw hw 45 rfl) e101 (argsL := [(.int (8 : Nat).toInt32)]) (rest := [(.ref b101)]) (W := 1) rfl rfl pd_5 rfl (Nat.le_of_eq rfl) rfl (by decide) (by decide) (by decide) (by decide) rfl d9_13 rfl ?_
  intro T103 v103 L103 X103 q103
  obtain ⟨w_103, kw_103, rfl, N103q, K103, B103_0, P103_0, P103_1, P103_2, P103_3, P103_4⟩ := q103
  have N103 := Fr.app N0 N103q
  have n_w_103 : Z.heap.size ≤ w_103 := Nat.le_trans O104.1 B103_0
  have z_w_103 : h0.size ≤ w_103 := Nat.le_trans (Nat.le_trans (Nat.le_refl _) E101.1) B103_0
  refine Go.astoreN (Ls' := #[.val (.ref a), .val (.ref b101), .unset, .unset, .unset, .unset, .unset, .unset]) (pc' := 17) C X103 d9_16 rfl rfl rfl ?_
  refine Go.iconst (z := (0 : Int32)) (pc' := 18) C X103 d9_17 rfl rfl ?_
  refine Go.istoreN (Ls' := #[.val (.ref a), .val (.ref b101), .val (.int (0 : Int32)), .unset, .unset, .unset, .unset, .unset]) (pc' := 19) C X103 d9_18 rfl rfl ?_
  refine Go.iconst (z := (0 : Int32)) (pc' := 20) C X103 d9_19 rfl rfl ?_
  refine Go.istoreN (Ls' := #[.val (.ref a), .val (.ref b101), .val (.int (0 : Int32)), .val (.int (0 : Int32)), .unset, .unset, .unset, .unset]) (pc' := 21) C X103 d9_20 rfl rfl ?_
  refine Go.aloadN (pc' := 22) C X103 d9_21 rfl rfl rfl ?_
  refine Go.astore (Ls' := #[.val (.ref a), .val (.ref b101), .val (.int (0 : Int32)), .val (.int (0 : Int32)), .val (.ref a), .unset, .unset, .unset]) (pc' := 24) C X103 d9_22 rfl rfl rfl ?_
  refine Go.aload (pc' := 26) C X103 d9_24 rfl rfl rfl ?_
  have ne105 : a ≠ b101 := Nat.ne_of_lt (Nat.lt_of_lt_of_le A0.lt (Nat.le_trans (Nat.le_refl _) (Nat.le_of_eq g101.symm)))
  have c106 : AL Z T103.heap a ka .byte (by8 [y0, y1]) := (AL.keep c102 K103 (ninS ne105 nin0))
  refine Go.alen (z := (2 : Int32)) (pc' := 27) C X103 rfl c106 (by rw [by8_len]; rfl) d9_26 rfl ?_
  refine Go.istore (Ls' := #[.val (.ref a), .val (.ref b101), .val (.int (0 : Int32)), .val (.int (0 : Int32)), .val (.ref a), .val (.int (2 : Int32)), .unset, .unset]) (pc' := 29) C X103 d9_27 rfl rfl ?_
  refine Go.iconst (z := (0 : Int32)) (pc' := 30) C X103 d9_29 rfl rfl ?_
  refine Go.istore (Ls' := #[.val (.ref a), .val (.ref b101), .val (.int (0 : Int32)), .val (.int (0 : Int32)), .val (.ref a), .val (.int (2 : Int32)), .val (.int (0 : Int32)), .unset]) (pc' := 32) C X103 d9_30 rfl rfl ?_
  obtain ⟨B0, hB0⟩ : ∃ z, z = (((0 : Int32) <<< ((8 : Int32) &&& 31)) ||| (y0.toInt8.toInt32 &&& (255 : Int32))) := ⟨_, rfl⟩
  have vB0 := bufv hB0
  have O108 : Ext Z.heap T103.heap := (Ext.keep O104 K103 (allS n_b101 all0))
  refine sg_in hw a ka b101 (0 : Int32) B0 (0 : Int32) (8 : Int32) (2 : Int32) (0 : Int32) Slot.unset y0 0 (by8 [y0, y1]) C (by decide) (by decide) (by decide) (by decide) (by decide) (by8_get rfl) One.u hB0 (by decide) (by decide) (by decide) X103 rfl O108 c106 N103 ?_
  obtain ⟨d0, hd0⟩ : ∃ z, z = (((B0.toUInt32 >>> ((3 : Int32) &&& 31).toUInt32).toInt32) &&& (31 : Int32)) := ⟨_, rfl⟩
  have ud0 := ixv (3 : Int32) 3 8 (by decide) (by decide) (by decide) (by decide) hd0
  have gd0 := c_rng ud0
  have lY0 : ((List.replicate (8 : Nat) 0) : List Int32).length = 8 := by simp
  have ct0 : Fld Z T103.heap b101 "java/lang/AbstractStringBuilder" "count" "I" (.int (0 : Nat).toInt32) := P103_2
  have ne109 : b101 ≠ w_103 := Nat.ne_of_lt (Nat.lt_of_lt_of_le A101.lt (Nat.le_trans (Nat.le_refl _) B103_0))
  have c110 : Exa Z T103.heap b101 "java/lang/StringBuilder" := (Exa.keep A101 K103)
  refine sg_ch hw a b101 w_103 kw_103 (List.replicate (8 : Nat) 0) (8 : Nat) (0 : Nat) (1 : Nat) cP ta tk tb B0 (8 : Int32) (3 : Int32) (2 : Int32) (0 : Int32) y0.toInt8.toInt32 d0 C (by decide) (by decide) (by decide) lY0 (by decide) rfl hP n_b101 n_w_103 ne109 htb (by decide) (by decide) hd0 gd0 (by decide) (by decide) X103 rfl O108 c110 P103_0 P103_1 ct0 P103_4 SC ST AT N103 ?_
  intro T111 L111 h111 Y1 X111 e111 K111 j111_0 j111_1 P111_0 P111_1 P111_2 P111_3 N111
  have O113 : Ext Z.heap h111 := (Ext.keep O108 K111 (allS n_b101 (allS n_w_103 all0)))
  refine sg_nx hw a b101 B0 (3 : Int32) (2 : Int32) (0 : Int32) (1 : Int32) y0.toInt8.toInt32 C (by decide) (by decide) (by decide) (by decide) (by decide) (by decide) X111 e111 O113  N111 ?_
  obtain ⟨B1, hB1⟩ : ∃ z, z = ((B0 <<< ((8 : Int32) &&& 31)) ||| (y1.toInt8.toInt32 &&& (255 : Int32))) := ⟨_, rfl⟩
  have vB1 := bufv hB1
  have ne114 : a ≠ w_103 := Nat.ne_of_lt (Nat.lt_of_lt_of_le A0.lt (Nat.le_trans (Nat.le_trans (Nat.le_refl _) E101.1) B103_0))
  have c115 : AL Z h111 a ka .byte (by8 [y0, y1]) := (AL.keep c106 K111 (ninS ne105 (ninS ne114 nin0)))
  refine sg_in hw a ka b101 B0 B1 (3 : Int32) (11 : Int32) (2 : Int32) (1 : Int32) (Slot.val (.int y0.toInt8.toInt32)) y1 1 (by8 [y0, y1]) C (by decide) (by decide) (by decide) (by decide) (by decide) (by8_get rfl) (One.val rfl) hB1 (by decide) (by decide) (by decide) X111 e111 O113 c115 N111 ?_
  obtain ⟨d1, hd1⟩ : ∃ z, z = (((B1.toUInt32 >>> ((6 : Int32) &&& 31).toUInt32).toInt32) &&& (31 : Int32)) := ⟨_, rfl⟩
  have ud1 := ixv (6 : Int32) 6 64 (by decide) (by decide) (by decide) (by decide) hd1
  have gd1 := c_rng ud1
  have c117 : Exa Z h111 b101 "java/lang/StringBuilder" := (Exa.keep c110 K111)
  refine sg_ch hw a b101 w_103 kw_103 Y1 (8 : Nat) (1 : Nat) (2 : Nat) cP ta tk tb B1 (11 : Int32) (6 : Int32) (2 : Int32) (1 : Int32) y1.toInt8.toInt32 d1 C (by decide) (by decide) (by decide) j111_1 (by decide) rfl hP n_b101 n_w_103 ne109 htb (by decide) (by decide) hd1 gd1 (by decide) (by decide) X111 e111 O113 c117 P111_0 P111_1 P111_2 P111_3 SC ST AT N111 ?_
  intro T118 L118 h118 Y2 X118 e118 K118 j118_0 j118_1 P118_0 P118_1 P118_2 P118_3 N118
  obtain ⟨d2, hd2⟩ : ∃ z, z = (((B1.toUInt32 >>> ((1 : Int32) &&& 31).toUInt32).toInt32) &&& (31 : Int32)) := ⟨_, rfl⟩
  have ud2 := ixv (1 : Int32) 1 2 (by decide) (by decide) (by decide) (by decide) hd2
  have gd2 := c_rng ud2
  have c119 : Exa Z h118 b101 "java/lang/StringBuilder" := (Exa.keep c117 K118)
  have O121 : Ext Z.heap h118 := (Ext.keep O113 K118 (allS n_b101 (allS n_w_103 all0)))
  refine sg_ch hw a b101 w_103 kw_103 Y2 (8 : Nat) (2 : Nat) (3 : Nat) cP ta tk tb B1 (6 : Int32) (1 : Int32) (2 : Int32) (1 : Int32) y1.toInt8.toInt32 d2 C (by decide) (by decide) (by decide) j118_1 (by decide) rfl hP n_b101 n_w_103 ne109 htb (by decide) (by decide) hd2 gd2 (by decide) (by decide) X118 e118 O121 c119 P118_0 P118_1 P118_2 P118_3 SC ST AT N118 ?_
  intro T120 L120 h120 Y3 X120 e120 K120 j120_0 j120_1 P120_0 P120_1 P120_2 P120_3 N120
  have O123 : Ext Z.heap h120 := (Ext.keep O121 K120 (allS n_b101 (allS n_w_103 all0)))
  refine sg_nx hw a b101 B1 (1 : Int32) (2 : Int32) (1 : Int32) (2 : Int32) y1.toInt8.toInt32 C (by decide) (by decide) (by decide) (by decide) (by decide) (by decide) X120 e120 O123  N120 ?_
  refine Go.iload (pc' := 34) C X120 d9_32 rfl rfl ?_
  refine Go.iload (pc' := 36) C X120 d9_34 rfl rfl ?_
  refine Go.icmpYes (pc' := 93) C X120 d9_36 (flt (x := (2 : Int32)) (y := (2 : Int32)) (by decide)).2.1 (by decide) (by decide) ?_
  obtain ⟨d3, hd3⟩ : ∃ z, z = ((B1 <<< (((5 : Int32) - (1 : Int32)) &&& 31)) &&& (31 : Int32)) := ⟨_, rfl⟩
  have ud3 := ixl ((5 : Int32) - (1 : Int32)) 4 16 (by decide) (by decide) (by decide) hd3
  have gd3 := c_rng ud3
  have c125 : Exa Z h120 b101 "java/lang/StringBuilder" := (Exa.keep c119 K120)
  refine sg_tl hw a b101 w_103 kw_103 Y3 (8 : Nat) (3 : Nat) (4 : Nat) cP ta tk tb B1 (1 : Int32) (2 : Int32) (2 : Int32) y1.toInt8.toInt32 d3 C (by decide) (by decide) (by decide) j120_1 (by decide) rfl hP n_b101 n_w_103 ne109 htb (by decide) hd3 gd3 (by decide) (by decide) X120 e120 O123 c125 P120_0 P120_1 P120_2 P120_3 SC ST AT N120 ?_
  intro T126 L126 h126 Y4 X126 e126 K126 j126_0 j126_1 P126_0 P126_1 P126_2 P126_3 N126
  have c127 : Exa Z h126 b101 "java/lang/StringBuilder" := (Exa.keep c125 K126)
  have O129 : Ext Z.heap h126 := (Ext.keep O123 K126 (allS n_b101 (allS n_w_103 all0)))
  refine sg_pd hw a b101 w_103 kw_103 Y4 (8 : Nat) (4 : Nat) (5 : Nat) cP B1 (1 : Int32) (2 : Int32) (2 : Int32) y1.toInt8.toInt32 C (by decide) (by decide) (by decide) j126_1 (by decide) rfl hP n_b101 n_w_103 ne109 (by decide) (by decide) (by decide) X126 e126 O129 c127 P126_0 P126_1 P126_2 P126_3 SC N126 ?_
  intro T128 L128 h128 Y5 X128 e128 K128 j128_0 j128_1 P128_0 P128_1 P128_2 P128_3 N128
  have c130 : Exa Z h128 b101 "java/lang/StringBuilder" := (Exa.keep c127 K128)
  have O132 : Ext Z.heap h128 := (Ext.keep O129 K128 (allS n_b101 (allS n_w_103 all0)))
  refine sg_pd hw a b101 w_103 kw_103 Y5 (8 : Nat) (5 : Nat) (6 : Nat) cP B1 (1 : Int32) (2 : Int32) (2 : Int32) y1.toInt8.toInt32 C (by decide) (by decide) (by decide) j128_1 (by decide) rfl hP n_b101 n_w_103 ne109 (by decide) (by decide) (by decide) X128 e128 O132 c130 P128_0 P128_1 P128_2 P128_3 SC N128 ?_
  intro T131 L131 h131 Y6 X131 e131 K131 j131_0 j131_1 P131_0 P131_1 P131_2 P131_3 N131
  have c133 : Exa Z h131 b101 "java/lang/StringBuilder" := (Exa.keep c130 K131)
  have O135 : Ext Z.heap h131 := (Ext.keep O132 K131 (allS n_b101 (allS n_w_103 all0)))
  refine sg_pd hw a b101 w_103 kw_103 Y6 (8 : Nat) (6 : Nat) (7 : Nat) cP B1 (1 : Int32) (2 : Int32) (2 : Int32) y1.toInt8.toInt32 C (by decide) (by decide) (by decide) j131_1 (by decide) rfl hP n_b101 n_w_103 ne109 (by decide) (by decide) (by decide) X131 e131 O135 c133 P131_0 P131_1 P131_2 P131_3 SC N131 ?_
  intro T134 L134 h134 Y7 X134 e134 K134 j134_0 j134_1 P134_0 P134_1 P134_2 P134_3 N134
  have c136 : Exa Z h134 b101 "java/lang/StringBuilder" := (Exa.keep c133 K134)
  have O138 : Ext Z.heap h134 := (Ext.keep O135 K134 (allS n_b101 (allS n_w_103 all0)))
  refine sg_pd hw a b101 w_103 kw_103 Y7 (8 : Nat) (7 : Nat) (8 : Nat) cP B1 (1 : Int32) (2 : Int32) (2 : Int32) y1.toInt8.toInt32 C (by decide) (by decide) (by decide) j134_1 (by decide) rfl hP n_b101 n_w_103 ne109 (by decide) (by decide) (by decide) X134 e134 O138 c136 P134_0 P134_1 P134_2 P134_3 SC N134 ?_
  intro T137 L137 h137 Y8 X137 e137 K137 j137_0 j137_1 P137_0 P137_1 P137_2 P137_3 N137
  refine Go.aloadN (pc' := 115) C X137 d9_114 rfl rfl rfl ?_
  have c140 : Exa Z h137 b101 "java/lang/StringBuilder" := (Exa.keep c136 K137)
  have O141 : Ext Z.heap h137 := (Ext.keep O138 K137 (allS n_b101 (allS n_w_103 all0)))
  refine Go.callV (y := mN22) (z := mN22) (a := b101) (pc' := 118) C X137 (tw hw 63 rfl) (tw hw 64 rfl) (notFace_at C.2.1 (tw hw 66 rfl)) (tw hw 66 rfl) (tw hw 65 rfl) c140 (by decide) (rm_sbl l Z a0 hw b101 ((8 : Nat).toInt32) h137 O141 c140 P137_2) (tw hw 67 rfl) (tw hw 45 rfl) e137 (argsL := []) (rest := []) (W := 0) rfl rfl pd_6 rfl (Nat.le_of_eq rfl) rfl (by decide) (by decide) (by decide) (by decide) d9_115 rfl ?_
  intro T139 v139 L139 X139 q139
  obtain ⟨rfl, rfl, e139⟩ := q139
  have N139 := Fr.app N137 (Fr.nil _)
  rw [show (8 : Nat).toInt32 = (8 : Int32) from rfl]
  refine Go.bipush (z := (8 : Int32)) (pc' := 120) C X139 d9_118 rfl rfl ?_
  refine Go.irem (pc' := 121) C X139 d9_120 (by decide) rfl ?_
  rw [show ((8 : Int32) % (8 : Int32)) = (0 : Int32) from by decide]
  refine Go.ifYes (pc' := 134) C X139 d9_121 ((if0 _ _).trans (teq (x := (0 : Int32)) (y := (0 : Int32)) (by decide)).1) (by decide) (by decide) ?_
  have ctE : Fld Z h137 b101 "java/lang/AbstractStringBuilder" "count" "I" (.int Y8.length.toInt32) := by rw [j137_1]; exact P137_2
  refine Go.aloadN (pc' := 135) C X139 d9_134 rfl rfl rfl ?_
  have c144 : Exa Z h137 w_103 "[B" := (Exa.keep (Exa.keep (Exa.keep (Exa.keep (Exa.keep (Exa.keep (Exa.keep (Exa.keep P103_3 K111) K118) K120) K126) K128) K131) K134) K137)
  refine Go.callV (y := mN23) (z := mN23) (a := b101) (pc' := 138) C X139 (tw hw 75 rfl) (tw hw 76 rfl) (notFace_at C.2.1 (tw hw 78 rfl)) (tw hw 78 rfl) (tw hw 77 rfl) c140 (by decide) (rm_tos l Z a0 hw b101 w_103 kw_103 Y8 cP h137 O141 c140 P137_0 P137_1 ctE c144 P137_3 SC (by rw [j137_1]; decide) hP) (tw hw 79 rfl) (tw hw 45 rfl) e139 (argsL := []) (rest := []) (W := 0) rfl rfl pd_18 rfl (Nat.le_of_eq rfl) rfl (by decide) (by decide) (by decide) (by decide) d9_135 rfl ?_
  intro T143 v143 L143 X143 q143
  obtain ⟨s1_143, v_143, kv_143, rfl, N143q, K143, B143_0, B143_1, P143_0, P143_1, P143_2, P143_3⟩ := q143
  have N143 := Fr.app N139 N143q
  have n_s1_143 : Z.heap.size ≤ s1_143 := Nat.le_trans O141.1 B143_0
  have z_s1_143 : h0.size ≤ s1_143 := Nat.le_trans (Nat.le_trans (Nat.le_trans (Nat.le_trans (Nat.le_trans (Nat.le_trans (Nat.le_trans (Nat.le_trans (Nat.le_trans (Nat.le_trans (Nat.le_trans (Nat.le_refl _) E101.1) K103.1) K111.1) K118.1) K120.1) K126.1) K128.1) K131.1) K134.1) K137.1) B143_0
  have n_v_143 : Z.heap.size ≤ v_143 := Nat.le_trans O141.1 B143_1
  have z_v_143 : h0.size ≤ v_143 := Nat.le_trans (Nat.le_trans (Nat.le_trans (Nat.le_trans (Nat.le_trans (Nat.le_trans (Nat.le_trans (Nat.le_trans (Nat.le_trans (Nat.le_trans (Nat.le_trans (Nat.le_refl _) E101.1) K103.1) K111.1) K118.1) K120.1) K126.1) K128.1) K131.1) K134.1) K137.1) B143_1
  have K145 : Keep h0 T143.heap [] := ((((((((((((Keep.refl h0 []).ext E101).trans K103 (allS (Or.inr z_b101) all0)).trans K111 (allS (Or.inr z_b101) (allS (Or.inr z_w_103) all0))).trans K118 (allS (Or.inr z_b101) (allS (Or.inr z_w_103) all0))).trans K120 (allS (Or.inr z_b101) (allS (Or.inr z_w_103) all0))).trans K126 (allS (Or.inr z_b101) (allS (Or.inr z_w_103) all0))).trans K128 (allS (Or.inr z_b101) (allS (Or.inr z_w_103) all0))).trans K131 (allS (Or.inr z_b101) (allS (Or.inr z_w_103) all0))).trans K134 (allS (Or.inr z_b101) (allS (Or.inr z_w_103) all0))).trans K137 (allS (Or.inr z_b101) (allS (Or.inr z_w_103) all0))).trans K143 all0)
  exact Go.retA C X143 rfl d9_138 rfl rfl rfl ⟨s1_143, v_143, kv_143, d0, d1, d2, d3, rfl, N143, K145, z_s1_143, z_v_143, P143_0, P143_1, P143_2, (by have q := P143_3; rw [j137_0, j134_0, j131_0, j128_0, j126_0, j120_0, j118_0, j111_0] at q; exact q), (qv ud0 vB0 p0z), (qv ud1 vB1 (bufw vB0)), (qv ud2 vB1 (bufw vB0)), (ql ud3 vB1)⟩ (by decide) (by decide)
def Q_b32_3 (Z : State) (a : Addr) (ka : ClassId) (cP : Int32) (ta : Addr) (tk : ClassId) (tb : List Value) (y0 : Int32) (y1 : Int32) (y2 : Int32) (h0 : Heap) (rv : Option Value) (h : Heap) (L : List Loc) : Prop := ∃ s1 : Addr, ∃ v : Addr, ∃ kv : ClassId, ∃ c0 : Int32, ∃ c1 : Int32, ∃ c2 : Int32, ∃ c3 : Int32, ∃ c4 : Int32, rv = some (.ref s1) ∧ Fr Z.heap.size L ∧ Keep h0 h [] ∧ h0.size ≤ s1 ∧ h0.size ≤ v ∧ Exa Z h s1 "java/lang/String" ∧ Fld Z h s1 "java/lang/String" "value" "[B" (.ref v) ∧ Fld Z h s1 "java/lang/String" "coder" "B" (.int (0 : Int32)) ∧ AL Z h v kv .byte (by8 [(alf c0), (alf c1), (alf c2), (alf c3), (alf c4), 61, 61, 61]) ∧ (c0.toInt = ((0) * 256 + y0.toInt % 256) / 8 % 32) ∧ (c1.toInt = ((y0.toInt % 16) * 256 + y1.toInt % 256) / 64 % 32) ∧ (c2.toInt = ((y0.toInt % 16) * 256 + y1.toInt % 256) / 2 % 32) ∧ (c3.toInt = ((y1.toInt % 16) * 256 + y2.toInt % 256) / 16 % 32) ∧ (c4.toInt = (y2.toInt % 256) * 2 % 32)
theorem rm_b32_3 (l : Launch) (Z : State) (a0 : Array Value) (hw : ∀ d ∈ tables_1, d.before a0 Z = true) (a : Addr) (ka : ClassId) (cP : Int32) (ta : Addr) (tk : ClassId) (tb : List Value) (y0 : Int32) (y1 : Int32) (y2 : Int32) (h0 : Heap) (O0 : Ext Z.heap h0) (A0 : AL Z h0 a ka .byte (by8 [y0, y1, y2])) (SC : Sta Z Z.heap "java/lang/String" "COMPACT_STRINGS" "Z" (.int cP)) (ST : Sta Z Z.heap "com/example/barrault/barrault/io/WarcDigest" "BASE32" "[C" (.ref ta)) (AT : AL Z Z.heap ta tk .char tb) (hP : ¬ cP = (0 : Int32)) (htb : ∀ c : Int32, 0 ≤ c.toInt → c.toInt < 32 → tb[c.toNatClampNeg]? = some (.int (alf c))) :
    Met1 l Z mN0 prog_23_method_5_code 8 (some (.object "java/lang/String")) ({ frames := 5, cells := 4, slots := 40, locals := 71 } : Room) #[(.ref a)] h0 (Q_b32_3 Z a ka cP ta tk tb y0 y1 y2 h0) := by
  refine Met1.of_body (Ls := #[.val (.ref a), .unset, .unset, .unset, .unset, .unset, .unset, .unset]) pf_9 (fun m => by first | (simp [entryFrame, mkF, argsToLocals, Value.category]; done) | rfl) ?_
  intro p e s m below meth c T0 C X0 e0
  have N0 : Fr Z.heap.size [] := Fr.nil _
  refine Go.newO (pc' := 3) C X0 (tw hw 43 rfl) (tw hw 44 rfl) (tw hw 45 rfl) e0 (by decide) (by decide) d9_0 rfl ?_
  intro T101 h101 b101 X101 e101 g101 E101 A101 D101
  have n_b101 : Z.heap.size ≤ b101 := Nat.le_trans O0.1 (Nat.le_of_eq g101.symm)
  have z_b101 : h0.size ≤ b101 := Nat.le_trans (Nat.le_refl _) (Nat.le_of_eq g101.symm)
  have F101_value : Fld Z h101 b101 "java/lang/AbstractStringBuilder" "value" "[B" .null := D101 (Or.inl (tw hw 60 rfl)) (ty := (.array .byte)) (by decide)
  have F101_coder : Fld Z h101 b101 "java/lang/AbstractStringBuilder" "coder" "B" (.int (0 : Int32)) := D101 (Or.inl (tw hw 62 rfl)) (ty := .byte) (by decide)
  have F101_count : Fld Z h101 b101 "java/lang/AbstractStringBuilder" "count" "I" (.int (0 : Int32)) := D101 (Or.inl (tw hw 74 rfl)) (ty := .int) (by decide)
  refine Go.dup (pc' := 4) C X101 d9_3 rfl rfl ?_
  refine Go.aloadN (pc' := 5) C X101 d9_4 rfl rfl rfl ?_
  have c102 : AL Z h101 a ka .byte (by8 [y0, y1, y2]) := (AL.ext E101 A0)
  refine Go.alen (z := (3 : Int32)) (pc' := 6) C X101 e101 c102 (by rw [by8_len]; rfl) d9_5 rfl ?_
  refine Go.iconst (z := (4 : Int32)) (pc' := 7) C X101 d9_6 rfl rfl ?_
  refine Go.iadd (pc' := 8) C X101 d9_7 rfl ?_
  rw [show ((3 : Int32) + (4 : Int32)) = (7 : Int32) from by decide]
  refine Go.iconst (z := (5 : Int32)) (pc' := 9) C X101 d9_8 rfl rfl ?_
  refine Go.idiv (pc' := 10) C X101 d9_9 (by decide) rfl ?_
  refine Go.bipush (z := (8 : Int32)) (pc' := 12) C X101 d9_10 rfl rfl ?_
  refine Go.imul (pc' := 13) C X101 d9_12 rfl ?_
  rw [show (((7 : Int32) / (5 : Int32)) * (8 : Int32)) = (8 : Nat).toInt32 from by decide]
  have O104 : Ext Z.heap h101 := (Ext.trans O0 E101)
  refine Go.callI (y := mN20) (a := b101) (pc' := 16) C X101 rfl (tw hw 46 rfl) (tw hw 47 rfl) (by decide) (rm_sbI l Z a0 hw b101 ((8 : Nat)) cP h101 O104 A101 F101_value F101_coder F101_count SC n_b101 hP (by decide)) (tw hw 48 rfl) (tw hw 45 rfl) e101 (argsL := [(.int (8 : Nat).toInt32)]) (rest := [(.ref b101)]) (W := 1) rfl rfl pd_5 rfl (Nat.le_of_eq rfl) rfl (by decide) (by decide) (by decide) (by decide) rfl d9_13 rfl ?_
  intro T103 v103 L103 X103 q103
  obtain ⟨w_103, kw_103, rfl, N103q, K103, B103_0, P103_0, P103_1, P103_2, P103_3, P103_4⟩ := q103
  have N103 := Fr.app N0 N103q
  have n_w_103 : Z.heap.size ≤ w_103 := Nat.le_trans O104.1 B103_0
  have z_w_103 : h0.size ≤ w_103 := Nat.le_trans (Nat.le_trans (Nat.le_refl _) E101.1) B103_0
  refine Go.astoreN (Ls' := #[.val (.ref a), .val (.ref b101), .unset, .unset, .unset, .unset, .unset, .unset]) (pc' := 17) C X103 d9_16 rfl rfl rfl ?_
  refine Go.iconst (z := (0 : Int32)) (pc' := 18) C X103 d9_17 rfl rfl ?_
  refine Go.istoreN (Ls' := #[.val (.ref a), .val (.ref b101), .val (.int (0 : Int32)), .unset, .unset, .unset, .unset, .unset]) (pc' := 19) C X103 d9_18 rfl rfl ?_
  refine Go.iconst (z := (0 : Int32)) (pc' := 20) C X103 d9_19 rfl rfl ?_
  refine Go.istoreN (Ls' := #[.val (.ref a), .val (.ref b101), .val (.int (0 : Int32)), .val (.int (0 : Int32)), .unset, .unset, .unset, .unset]) (pc' := 21) C X103 d9_20 rfl rfl ?_
  refine Go.aloadN (pc' := 22) C X103 d9_21 rfl rfl rfl ?_
  refine Go.astore (Ls' := #[.val (.ref a), .val (.ref b101), .val (.int (0 : Int32)), .val (.int (0 : Int32)), .val (.ref a), .unset, .unset, .unset]) (pc' := 24) C X103 d9_22 rfl rfl rfl ?_
  refine Go.aload (pc' := 26) C X103 d9_24 rfl rfl rfl ?_
  have ne105 : a ≠ b101 := Nat.ne_of_lt (Nat.lt_of_lt_of_le A0.lt (Nat.le_trans (Nat.le_refl _) (Nat.le_of_eq g101.symm)))
  have c106 : AL Z T103.heap a ka .byte (by8 [y0, y1, y2]) := (AL.keep c102 K103 (ninS ne105 nin0))
  refine Go.alen (z := (3 : Int32)) (pc' := 27) C X103 rfl c106 (by rw [by8_len]; rfl) d9_26 rfl ?_
  refine Go.istore (Ls' := #[.val (.ref a), .val (.ref b101), .val (.int (0 : Int32)), .val (.int (0 : Int32)), .val (.ref a), .val (.int (3 : Int32)), .unset, .unset]) (pc' := 29) C X103 d9_27 rfl rfl ?_
  refine Go.iconst (z := (0 : Int32)) (pc' := 30) C X103 d9_29 rfl rfl ?_
  refine Go.istore (Ls' := #[.val (.ref a), .val (.ref b101), .val (.int (0 : Int32)), .val (.int (0 : Int32)), .val (.ref a), .val (.int (3 : Int32)), .val (.int (0 : Int32)), .unset]) (pc' := 32) C X103 d9_30 rfl rfl ?_
  obtain ⟨B0, hB0⟩ : ∃ z, z = (((0 : Int32) <<< ((8 : Int32) &&& 31)) ||| (y0.toInt8.toInt32 &&& (255 : Int32))) := ⟨_, rfl⟩
  have vB0 := bufv hB0
  have O108 : Ext Z.heap T103.heap := (Ext.keep O104 K103 (allS n_b101 all0))
  refine sg_in hw a ka b101 (0 : Int32) B0 (0 : Int32) (8 : Int32) (3 : Int32) (0 : Int32) Slot.unset y0 0 (by8 [y0, y1, y2]) C (by decide) (by decide) (by decide) (by decide) (by decide) (by8_get rfl) One.u hB0 (by decide) (by decide) (by decide) X103 rfl O108 c106 N103 ?_
  obtain ⟨d0, hd0⟩ : ∃ z, z = (((B0.toUInt32 >>> ((3 : Int32) &&& 31).toUInt32).toInt32) &&& (31 : Int32)) := ⟨_, rfl⟩
  have ud0 := ixv (3 : Int32) 3 8 (by decide) (by decide) (by decide) (by decide) hd0
  have gd0 := c_rng ud0
  have lY0 : ((List.replicate (8 : Nat) 0) : List Int32).length = 8 := by simp
  have ct0 : Fld Z T103.heap b101 "java/lang/AbstractStringBuilder" "count" "I" (.int (0 : Nat).toInt32) := P103_2
  have ne109 : b101 ≠ w_103 := Nat.ne_of_lt (Nat.lt_of_lt_of_le A101.lt (Nat.le_trans (Nat.le_refl _) B103_0))
  have c110 : Exa Z T103.heap b101 "java/lang/StringBuilder" := (Exa.keep A101 K103)
  refine sg_ch hw a b101 w_103 kw_103 (List.replicate (8 : Nat) 0) (8 : Nat) (0 : Nat) (1 : Nat) cP ta tk tb B0 (8 : Int32) (3 : Int32) (3 : Int32) (0 : Int32) y0.toInt8.toInt32 d0 C (by decide) (by decide) (by decide) lY0 (by decide) rfl hP n_b101 n_w_103 ne109 htb (by decide) (by decide) hd0 gd0 (by decide) (by decide) X103 rfl O108 c110 P103_0 P103_1 ct0 P103_4 SC ST AT N103 ?_
  intro T111 L111 h111 Y1 X111 e111 K111 j111_0 j111_1 P111_0 P111_1 P111_2 P111_3 N111
  have O113 : Ext Z.heap h111 := (Ext.keep O108 K111 (allS n_b101 (allS n_w_103 all0)))
  refine sg_nx hw a b101 B0 (3 : Int32) (3 : Int32) (0 : Int32) (1 : Int32) y0.toInt8.toInt32 C (by decide) (by decide) (by decide) (by decide) (by decide) (by decide) X111 e111 O113  N111 ?_
  obtain ⟨B1, hB1⟩ : ∃ z, z = ((B0 <<< ((8 : Int32) &&& 31)) ||| (y1.toInt8.toInt32 &&& (255 : Int32))) := ⟨_, rfl⟩
  have vB1 := bufv hB1
  have ne114 : a ≠ w_103 := Nat.ne_of_lt (Nat.lt_of_lt_of_le A0.lt (Nat.le_trans (Nat.le_trans (Nat.le_refl _) E101.1) B103_0))
  have c115 : AL Z h111 a ka .byte (by8 [y0, y1, y2]) := (AL.keep c106 K111 (ninS ne105 (ninS ne114 nin0)))
  refine sg_in hw a ka b101 B0 B1 (3 : Int32) (11 : Int32) (3 : Int32) (1 : Int32) (Slot.val (.int y0.toInt8.toInt32)) y1 1 (by8 [y0, y1, y2]) C (by decide) (by decide) (by decide) (by decide) (by decide) (by8_get rfl) (One.val rfl) hB1 (by decide) (by decide) (by decide) X111 e111 O113 c115 N111 ?_
  obtain ⟨d1, hd1⟩ : ∃ z, z = (((B1.toUInt32 >>> ((6 : Int32) &&& 31).toUInt32).toInt32) &&& (31 : Int32)) := ⟨_, rfl⟩
  have ud1 := ixv (6 : Int32) 6 64 (by decide) (by decide) (by decide) (by decide) hd1
  have gd1 := c_rng ud1
  have c117 : Exa Z h111 b101 "java/lang/StringBuilder" := (Exa.keep c110 K111)
  refine sg_ch hw a b101 w_103 kw_103 Y1 (8 : Nat) (1 : Nat) (2 : Nat) cP ta tk tb B1 (11 : Int32) (6 : Int32) (3 : Int32) (1 : Int32) y1.toInt8.toInt32 d1 C (by decide) (by decide) (by decide) j111_1 (by decide) rfl hP n_b101 n_w_103 ne109 htb (by decide) (by decide) hd1 gd1 (by decide) (by decide) X111 e111 O113 c117 P111_0 P111_1 P111_2 P111_3 SC ST AT N111 ?_
  intro T118 L118 h118 Y2 X118 e118 K118 j118_0 j118_1 P118_0 P118_1 P118_2 P118_3 N118
  obtain ⟨d2, hd2⟩ : ∃ z, z = (((B1.toUInt32 >>> ((1 : Int32) &&& 31).toUInt32).toInt32) &&& (31 : Int32)) := ⟨_, rfl⟩
  have ud2 := ixv (1 : Int32) 1 2 (by decide) (by decide) (by decide) (by decide) hd2
  have gd2 := c_rng ud2
  have c119 : Exa Z h118 b101 "java/lang/StringBuilder" := (Exa.keep c117 K118)
  have O121 : Ext Z.heap h118 := (Ext.keep O113 K118 (allS n_b101 (allS n_w_103 all0)))
  refine sg_ch hw a b101 w_103 kw_103 Y2 (8 : Nat) (2 : Nat) (3 : Nat) cP ta tk tb B1 (6 : Int32) (1 : Int32) (3 : Int32) (1 : Int32) y1.toInt8.toInt32 d2 C (by decide) (by decide) (by decide) j118_1 (by decide) rfl hP n_b101 n_w_103 ne109 htb (by decide) (by decide) hd2 gd2 (by decide) (by decide) X118 e118 O121 c119 P118_0 P118_1 P118_2 P118_3 SC ST AT N118 ?_
  intro T120 L120 h120 Y3 X120 e120 K120 j120_0 j120_1 P120_0 P120_1 P120_2 P120_3 N120
  have O123 : Ext Z.heap h120 := (Ext.keep O121 K120 (allS n_b101 (allS n_w_103 all0)))
  refine sg_nx hw a b101 B1 (1 : Int32) (3 : Int32) (1 : Int32) (2 : Int32) y1.toInt8.toInt32 C (by decide) (by decide) (by decide) (by decide) (by decide) (by decide) X120 e120 O123  N120 ?_
  obtain ⟨B2, hB2⟩ : ∃ z, z = ((B1 <<< ((8 : Int32) &&& 31)) ||| (y2.toInt8.toInt32 &&& (255 : Int32))) := ⟨_, rfl⟩
  have vB2 := bufv hB2
  have c124 : AL Z h120 a ka .byte (by8 [y0, y1, y2]) := (AL.keep (AL.keep c115 K118 (ninS ne105 (ninS ne114 nin0))) K120 (ninS ne105 (ninS ne114 nin0)))
  refine sg_in hw a ka b101 B1 B2 (1 : Int32) (9 : Int32) (3 : Int32) (2 : Int32) (Slot.val (.int y1.toInt8.toInt32)) y2 2 (by8 [y0, y1, y2]) C (by decide) (by decide) (by decide) (by decide) (by decide) (by8_get rfl) (One.val rfl) hB2 (by decide) (by decide) (by decide) X120 e120 O123 c124 N120 ?_
  obtain ⟨d3, hd3⟩ : ∃ z, z = (((B2.toUInt32 >>> ((4 : Int32) &&& 31).toUInt32).toInt32) &&& (31 : Int32)) := ⟨_, rfl⟩
  have ud3 := ixv (4 : Int32) 4 16 (by decide) (by decide) (by decide) (by decide) hd3
  have gd3 := c_rng ud3
  have c126 : Exa Z h120 b101 "java/lang/StringBuilder" := (Exa.keep c119 K120)
  refine sg_ch hw a b101 w_103 kw_103 Y3 (8 : Nat) (3 : Nat) (4 : Nat) cP ta tk tb B2 (9 : Int32) (4 : Int32) (3 : Int32) (2 : Int32) y2.toInt8.toInt32 d3 C (by decide) (by decide) (by decide) j120_1 (by decide) rfl hP n_b101 n_w_103 ne109 htb (by decide) (by decide) hd3 gd3 (by decide) (by decide) X120 e120 O123 c126 P120_0 P120_1 P120_2 P120_3 SC ST AT N120 ?_
  intro T127 L127 h127 Y4 X127 e127 K127 j127_0 j127_1 P127_0 P127_1 P127_2 P127_3 N127
  have O129 : Ext Z.heap h127 := (Ext.keep O123 K127 (allS n_b101 (allS n_w_103 all0)))
  refine sg_nx hw a b101 B2 (4 : Int32) (3 : Int32) (2 : Int32) (3 : Int32) y2.toInt8.toInt32 C (by decide) (by decide) (by decide) (by decide) (by decide) (by decide) X127 e127 O129  N127 ?_
  refine Go.iload (pc' := 34) C X127 d9_32 rfl rfl ?_
  refine Go.iload (pc' := 36) C X127 d9_34 rfl rfl ?_
  refine Go.icmpYes (pc' := 93) C X127 d9_36 (flt (x := (3 : Int32)) (y := (3 : Int32)) (by decide)).2.1 (by decide) (by decide) ?_
  obtain ⟨d4, hd4⟩ : ∃ z, z = ((B2 <<< (((5 : Int32) - (4 : Int32)) &&& 31)) &&& (31 : Int32)) := ⟨_, rfl⟩
  have ud4 := ixl ((5 : Int32) - (4 : Int32)) 1 2 (by decide) (by decide) (by decide) hd4
  have gd4 := c_rng ud4
  have c131 : Exa Z h127 b101 "java/lang/StringBuilder" := (Exa.keep c126 K127)
  refine sg_tl hw a b101 w_103 kw_103 Y4 (8 : Nat) (4 : Nat) (5 : Nat) cP ta tk tb B2 (4 : Int32) (3 : Int32) (3 : Int32) y2.toInt8.toInt32 d4 C (by decide) (by decide) (by decide) j127_1 (by decide) rfl hP n_b101 n_w_103 ne109 htb (by decide) hd4 gd4 (by decide) (by decide) X127 e127 O129 c131 P127_0 P127_1 P127_2 P127_3 SC ST AT N127 ?_
  intro T132 L132 h132 Y5 X132 e132 K132 j132_0 j132_1 P132_0 P132_1 P132_2 P132_3 N132
  have c133 : Exa Z h132 b101 "java/lang/StringBuilder" := (Exa.keep c131 K132)
  have O135 : Ext Z.heap h132 := (Ext.keep O129 K132 (allS n_b101 (allS n_w_103 all0)))
  refine sg_pd hw a b101 w_103 kw_103 Y5 (8 : Nat) (5 : Nat) (6 : Nat) cP B2 (4 : Int32) (3 : Int32) (3 : Int32) y2.toInt8.toInt32 C (by decide) (by decide) (by decide) j132_1 (by decide) rfl hP n_b101 n_w_103 ne109 (by decide) (by decide) (by decide) X132 e132 O135 c133 P132_0 P132_1 P132_2 P132_3 SC N132 ?_
  intro T134 L134 h134 Y6 X134 e134 K134 j134_0 j134_1 P134_0 P134_1 P134_2 P134_3 N134
  have c136 : Exa Z h134 b101 "java/lang/StringBuilder" := (Exa.keep c133 K134)
  have O138 : Ext Z.heap h134 := (Ext.keep O135 K134 (allS n_b101 (allS n_w_103 all0)))
  refine sg_pd hw a b101 w_103 kw_103 Y6 (8 : Nat) (6 : Nat) (7 : Nat) cP B2 (4 : Int32) (3 : Int32) (3 : Int32) y2.toInt8.toInt32 C (by decide) (by decide) (by decide) j134_1 (by decide) rfl hP n_b101 n_w_103 ne109 (by decide) (by decide) (by decide) X134 e134 O138 c136 P134_0 P134_1 P134_2 P134_3 SC N134 ?_
  intro T137 L137 h137 Y7 X137 e137 K137 j137_0 j137_1 P137_0 P137_1 P137_2 P137_3 N137
  have c139 : Exa Z h137 b101 "java/lang/StringBuilder" := (Exa.keep c136 K137)
  have O141 : Ext Z.heap h137 := (Ext.keep O138 K137 (allS n_b101 (allS n_w_103 all0)))
  refine sg_pd hw a b101 w_103 kw_103 Y7 (8 : Nat) (7 : Nat) (8 : Nat) cP B2 (4 : Int32) (3 : Int32) (3 : Int32) y2.toInt8.toInt32 C (by decide) (by decide) (by decide) j137_1 (by decide) rfl hP n_b101 n_w_103 ne109 (by decide) (by decide) (by decide) X137 e137 O141 c139 P137_0 P137_1 P137_2 P137_3 SC N137 ?_
  intro T140 L140 h140 Y8 X140 e140 K140 j140_0 j140_1 P140_0 P140_1 P140_2 P140_3 N140
  refine Go.aloadN (pc' := 115) C X140 d9_114 rfl rfl rfl ?_
  have c143 : Exa Z h140 b101 "java/lang/StringBuilder" := (Exa.keep c139 K140)
  have O144 : Ext Z.heap h140 := (Ext.keep O141 K140 (allS n_b101 (allS n_w_103 all0)))
  refine Go.callV (y := mN22) (z := mN22) (a := b101) (pc' := 118) C X140 (tw hw 63 rfl) (tw hw 64 rfl) (notFace_at C.2.1 (tw hw 66 rfl)) (tw hw 66 rfl) (tw hw 65 rfl) c143 (by decide) (rm_sbl l Z a0 hw b101 ((8 : Nat).toInt32) h140 O144 c143 P140_2) (tw hw 67 rfl) (tw hw 45 rfl) e140 (argsL := []) (rest := []) (W := 0) rfl rfl pd_6 rfl (Nat.le_of_eq rfl) rfl (by decide) (by decide) (by decide) (by decide) d9_115 rfl ?_
  intro T142 v142 L142 X142 q142
  obtain ⟨rfl, rfl, e142⟩ := q142
  have N142 := Fr.app N140 (Fr.nil _)
  rw [show (8 : Nat).toInt32 = (8 : Int32) from rfl]
  refine Go.bipush (z := (8 : Int32)) (pc' := 120) C X142 d9_118 rfl rfl ?_
  refine Go.irem (pc' := 121) C X142 d9_120 (by decide) rfl ?_
  rw [show ((8 : Int32) % (8 : Int32)) = (0 : Int32) from by decide]
  refine Go.ifYes (pc' := 134) C X142 d9_121 ((if0 _ _).trans (teq (x := (0 : Int32)) (y := (0 : Int32)) (by decide)).1) (by decide) (by decide) ?_
  have ctE : Fld Z h140 b101 "java/lang/AbstractStringBuilder" "count" "I" (.int Y8.length.toInt32) := by rw [j140_1]; exact P140_2
  refine Go.aloadN (pc' := 135) C X142 d9_134 rfl rfl rfl ?_
  have c147 : Exa Z h140 w_103 "[B" := (Exa.keep (Exa.keep (Exa.keep (Exa.keep (Exa.keep (Exa.keep (Exa.keep (Exa.keep P103_3 K111) K118) K120) K127) K132) K134) K137) K140)
  refine Go.callV (y := mN23) (z := mN23) (a := b101) (pc' := 138) C X142 (tw hw 75 rfl) (tw hw 76 rfl) (notFace_at C.2.1 (tw hw 78 rfl)) (tw hw 78 rfl) (tw hw 77 rfl) c143 (by decide) (rm_tos l Z a0 hw b101 w_103 kw_103 Y8 cP h140 O144 c143 P140_0 P140_1 ctE c147 P140_3 SC (by rw [j140_1]; decide) hP) (tw hw 79 rfl) (tw hw 45 rfl) e142 (argsL := []) (rest := []) (W := 0) rfl rfl pd_18 rfl (Nat.le_of_eq rfl) rfl (by decide) (by decide) (by decide) (by decide) d9_135 rfl ?_
  intro T146 v146 L146 X146 q146
  obtain ⟨s1_146, v_146, kv_146, rfl, N146q, K146, B146_0, B146_1, P146_0, P146_1, P146_2, P146_3⟩ := q146
  have N146 := Fr.app N142 N146q
  have n_s1_146 : Z.heap.size ≤ s1_146 := Nat.le_trans O144.1 B146_0
  have z_s1_146 : h0.size ≤ s1_146 := Nat.le_trans (Nat.le_trans (Nat.le_trans (Nat.le_trans (Nat.le_trans (Nat.le_trans (Nat.le_trans (Nat.le_trans (Nat.le_trans (Nat.le_trans (Nat.le_trans (Nat.le_refl _) E101.1) K103.1) K111.1) K118.1) K120.1) K127.1) K132.1) K134.1) K137.1) K140.1) B146_0
  have n_v_146 : Z.heap.size ≤ v_146 := Nat.le_trans O144.1 B146_1
  have z_v_146 : h0.size ≤ v_146 := Nat.le_trans (Nat.le_trans (Nat.le_trans (Nat.le_trans (Nat.le_trans (Nat.le_trans (Nat.le_trans (Nat.le_trans (Nat.le_trans (Nat.le_trans (Nat.le_trans (Nat.le_refl _) E101.1) K103.1) K111.1) K118.1) K120.1) K127.1) K132.1) K134.1) K137.1) K140.1) B146_1
  have K148 : Keep h0 T146.heap [] := ((((((((((((Keep.refl h0 []).ext E101).trans K103 (allS (Or.inr z_b101) all0)).trans K111 (allS (Or.inr z_b101) (allS (Or.inr z_w_103) all0))).trans K118 (allS (Or.inr z_b101) (allS (Or.inr z_w_103) all0))).trans K120 (allS (Or.inr z_b101) (allS (Or.inr z_w_103) all0))).trans K127 (allS (Or.inr z_b101) (allS (Or.inr z_w_103) all0))).trans K132 (allS (Or.inr z_b101) (allS (Or.inr z_w_103) all0))).trans K134 (allS (Or.inr z_b101) (allS (Or.inr z_w_103) all0))).trans K137 (allS (Or.inr z_b101) (allS (Or.inr z_w_103) all0))).trans K140 (allS (Or.inr z_b101) (allS (Or.inr z_w_103) all0))).trans K146 all0)
  exact Go.retA C X146 rfl d9_138 rfl rfl rfl ⟨s1_146, v_146, kv_146, d0, d1, d2, d3, d4, rfl, N146, K148, z_s1_146, z_v_146, P146_0, P146_1, P146_2, (by have q := P146_3; rw [j140_0, j137_0, j134_0, j132_0, j127_0, j120_0, j118_0, j111_0] at q; exact q), (qv ud0 vB0 p0z), (qv ud1 vB1 (bufw vB0)), (qv ud2 vB1 (bufw vB0)), (qv ud3 vB2 (bufw vB1)), (ql ud4 vB2)⟩ (by decide) (by decide)
def Q_b32_4 (Z : State) (a : Addr) (ka : ClassId) (cP : Int32) (ta : Addr) (tk : ClassId) (tb : List Value) (y0 : Int32) (y1 : Int32) (y2 : Int32) (y3 : Int32) (h0 : Heap) (rv : Option Value) (h : Heap) (L : List Loc) : Prop := ∃ s1 : Addr, ∃ v : Addr, ∃ kv : ClassId, ∃ c0 : Int32, ∃ c1 : Int32, ∃ c2 : Int32, ∃ c3 : Int32, ∃ c4 : Int32, ∃ c5 : Int32, ∃ c6 : Int32, rv = some (.ref s1) ∧ Fr Z.heap.size L ∧ Keep h0 h [] ∧ h0.size ≤ s1 ∧ h0.size ≤ v ∧ Exa Z h s1 "java/lang/String" ∧ Fld Z h s1 "java/lang/String" "value" "[B" (.ref v) ∧ Fld Z h s1 "java/lang/String" "coder" "B" (.int (0 : Int32)) ∧ AL Z h v kv .byte (by8 [(alf c0), (alf c1), (alf c2), (alf c3), (alf c4), (alf c5), (alf c6), 61]) ∧ (c0.toInt = ((0) * 256 + y0.toInt % 256) / 8 % 32) ∧ (c1.toInt = ((y0.toInt % 16) * 256 + y1.toInt % 256) / 64 % 32) ∧ (c2.toInt = ((y0.toInt % 16) * 256 + y1.toInt % 256) / 2 % 32) ∧ (c3.toInt = ((y1.toInt % 16) * 256 + y2.toInt % 256) / 16 % 32) ∧ (c4.toInt = ((y2.toInt % 16) * 256 + y3.toInt % 256) / 128 % 32) ∧ (c5.toInt = ((y2.toInt % 16) * 256 + y3.toInt % 256) / 4 % 32) ∧ (c6.toInt = (y3.toInt % 256) * 8 % 32)
theorem rm_b32_4 (l : Launch) (Z : State) (a0 : Array Value) (hw : ∀ d ∈ tables_1, d.before a0 Z = true) (a : Addr) (ka : ClassId) (cP : Int32) (ta : Addr) (tk : ClassId) (tb : List Value) (y0 : Int32) (y1 : Int32) (y2 : Int32) (y3 : Int32) (h0 : Heap) (O0 : Ext Z.heap h0) (A0 : AL Z h0 a ka .byte (by8 [y0, y1, y2, y3])) (SC : Sta Z Z.heap "java/lang/String" "COMPACT_STRINGS" "Z" (.int cP)) (ST : Sta Z Z.heap "com/example/barrault/barrault/io/WarcDigest" "BASE32" "[C" (.ref ta)) (AT : AL Z Z.heap ta tk .char tb) (hP : ¬ cP = (0 : Int32)) (htb : ∀ c : Int32, 0 ≤ c.toInt → c.toInt < 32 → tb[c.toNatClampNeg]? = some (.int (alf c))) :
    Met1 l Z mN0 prog_23_method_5_code 8 (some (.object "java/lang/String")) ({ frames := 5, cells := 4, slots := 40, locals := 71 } : Room) #[(.ref a)] h0 (Q_b32_4 Z a ka cP ta tk tb y0 y1 y2 y3 h0) := by
  refine Met1.of_body (Ls := #[.val (.ref a), .unset, .unset, .unset, .unset, .unset, .unset, .unset]) pf_9 (fun m => by first | (simp [entryFrame, mkF, argsToLocals, Value.category]; done) | rfl) ?_
  intro p e s m below meth c T0 C X0 e0
  have N0 : Fr Z.heap.size [] := Fr.nil _
  refine Go.newO (pc' := 3) C X0 (tw hw 43 rfl) (tw hw 44 rfl) (tw hw 45 rfl) e0 (by decide) (by decide) d9_0 rfl ?_
  intro T101 h101 b101 X101 e101 g101 E101 A101 D101
  have n_b101 : Z.heap.size ≤ b101 := Nat.le_trans O0.1 (Nat.le_of_eq g101.symm)
  have z_b101 : h0.size ≤ b101 := Nat.le_trans (Nat.le_refl _) (Nat.le_of_eq g101.symm)
  have F101_value : Fld Z h101 b101 "java/lang/AbstractStringBuilder" "value" "[B" .null := D101 (Or.inl (tw hw 60 rfl)) (ty := (.array .byte)) (by decide)
  have F101_coder : Fld Z h101 b101 "java/lang/AbstractStringBuilder" "coder" "B" (.int (0 : Int32)) := D101 (Or.inl (tw hw 62 rfl)) (ty := .byte) (by decide)
  have F101_count : Fld Z h101 b101 "java/lang/AbstractStringBuilder" "count" "I" (.int (0 : Int32)) := D101 (Or.inl (tw hw 74 rfl)) (ty := .int) (by decide)
  refine Go.dup (pc' := 4) C X101 d9_3 rfl rfl ?_
  refine Go.aloadN (pc' := 5) C X101 d9_4 rfl rfl rfl ?_
  have c102 : AL Z h101 a ka .byte (by8 [y0, y1, y2, y3]) := (AL.ext E101 A0)
  refine Go.alen (z := (4 : Int32)) (pc' := 6) C X101 e101 c102 (by rw [by8_len]; rfl) d9_5 rfl ?_
  refine Go.iconst (z := (4 : Int32)) (pc' := 7) C X101 d9_6 rfl rfl ?_
  refine Go.iadd (pc' := 8) C X101 d9_7 rfl ?_
  rw [show ((4 : Int32) + (4 : Int32)) = (8 : Int32) from by decide]
  refine Go.iconst (z := (5 : Int32)) (pc' := 9) C X101 d9_8 rfl rfl ?_
  refine Go.idiv (pc' := 10) C X101 d9_9 (by decide) rfl ?_
  refine Go.bipush (z := (8 : Int32)) (pc' := 12) C X101 d9_10 rfl rfl ?_
  refine Go.imul (pc' := 13) C X101 d9_12 rfl ?_
  rw [show (((8 : Int32) / (5 : Int32)) * (8 : Int32)) = (8 : Nat).toInt32 from by decide]
  have O104 : Ext Z.heap h101 := (Ext.trans O0 E101)
  refine Go.callI (y := mN20) (a := b101) (pc' := 16) C X101 rfl (tw hw 46 rfl) (tw hw 47 rfl) (by decide) (rm_sbI l Z a0 hw b101 ((8 : Nat)) cP h101 O104 A101 F101_value F101_coder F101_count SC n_b101 hP (by decide)) (tw hw 48 rfl) (tw hw 45 rfl) e101 (argsL := [(.int (8 : Nat).toInt32)]) (rest := [(.ref b101)]) (W := 1) rfl rfl pd_5 rfl (Nat.le_of_eq rfl) rfl (by decide) (by decide) (by decide) (by decide) rfl d9_13 rfl ?_
  intro T103 v103 L103 X103 q103
  obtain ⟨w_103, kw_103, rfl, N103q, K103, B103_0, P103_0, P103_1, P103_2, P103_3, P103_4⟩ := q103
  have N103 := Fr.app N0 N103q
  have n_w_103 : Z.heap.size ≤ w_103 := Nat.le_trans O104.1 B103_0
  have z_w_103 : h0.size ≤ w_103 := Nat.le_trans (Nat.le_trans (Nat.le_refl _) E101.1) B103_0
  refine Go.astoreN (Ls' := #[.val (.ref a), .val (.ref b101), .unset, .unset, .unset, .unset, .unset, .unset]) (pc' := 17) C X103 d9_16 rfl rfl rfl ?_
  refine Go.iconst (z := (0 : Int32)) (pc' := 18) C X103 d9_17 rfl rfl ?_
  refine Go.istoreN (Ls' := #[.val (.ref a), .val (.ref b101), .val (.int (0 : Int32)), .unset, .unset, .unset, .unset, .unset]) (pc' := 19) C X103 d9_18 rfl rfl ?_
  refine Go.iconst (z := (0 : Int32)) (pc' := 20) C X103 d9_19 rfl rfl ?_
  refine Go.istoreN (Ls' := #[.val (.ref a), .val (.ref b101), .val (.int (0 : Int32)), .val (.int (0 : Int32)), .unset, .unset, .unset, .unset]) (pc' := 21) C X103 d9_20 rfl rfl ?_
  refine Go.aloadN (pc' := 22) C X103 d9_21 rfl rfl rfl ?_
  refine Go.astore (Ls' := #[.val (.ref a), .val (.ref b101), .val (.int (0 : Int32)), .val (.int (0 : Int32)), .val (.ref a), .unset, .unset, .unset]) (pc' := 24) C X103 d9_22 rfl rfl rfl ?_
  refine Go.aload (pc' := 26) C X103 d9_24 rfl rfl rfl ?_
  have ne105 : a ≠ b101 := Nat.ne_of_lt (Nat.lt_of_lt_of_le A0.lt (Nat.le_trans (Nat.le_refl _) (Nat.le_of_eq g101.symm)))
  have c106 : AL Z T103.heap a ka .byte (by8 [y0, y1, y2, y3]) := (AL.keep c102 K103 (ninS ne105 nin0))
  refine Go.alen (z := (4 : Int32)) (pc' := 27) C X103 rfl c106 (by rw [by8_len]; rfl) d9_26 rfl ?_
  refine Go.istore (Ls' := #[.val (.ref a), .val (.ref b101), .val (.int (0 : Int32)), .val (.int (0 : Int32)), .val (.ref a), .val (.int (4 : Int32)), .unset, .unset]) (pc' := 29) C X103 d9_27 rfl rfl ?_
  refine Go.iconst (z := (0 : Int32)) (pc' := 30) C X103 d9_29 rfl rfl ?_
  refine Go.istore (Ls' := #[.val (.ref a), .val (.ref b101), .val (.int (0 : Int32)), .val (.int (0 : Int32)), .val (.ref a), .val (.int (4 : Int32)), .val (.int (0 : Int32)), .unset]) (pc' := 32) C X103 d9_30 rfl rfl ?_
  obtain ⟨B0, hB0⟩ : ∃ z, z = (((0 : Int32) <<< ((8 : Int32) &&& 31)) ||| (y0.toInt8.toInt32 &&& (255 : Int32))) := ⟨_, rfl⟩
  have vB0 := bufv hB0
  have O108 : Ext Z.heap T103.heap := (Ext.keep O104 K103 (allS n_b101 all0))
  refine sg_in hw a ka b101 (0 : Int32) B0 (0 : Int32) (8 : Int32) (4 : Int32) (0 : Int32) Slot.unset y0 0 (by8 [y0, y1, y2, y3]) C (by decide) (by decide) (by decide) (by decide) (by decide) (by8_get rfl) One.u hB0 (by decide) (by decide) (by decide) X103 rfl O108 c106 N103 ?_
  obtain ⟨d0, hd0⟩ : ∃ z, z = (((B0.toUInt32 >>> ((3 : Int32) &&& 31).toUInt32).toInt32) &&& (31 : Int32)) := ⟨_, rfl⟩
  have ud0 := ixv (3 : Int32) 3 8 (by decide) (by decide) (by decide) (by decide) hd0
  have gd0 := c_rng ud0
  have lY0 : ((List.replicate (8 : Nat) 0) : List Int32).length = 8 := by simp
  have ct0 : Fld Z T103.heap b101 "java/lang/AbstractStringBuilder" "count" "I" (.int (0 : Nat).toInt32) := P103_2
  have ne109 : b101 ≠ w_103 := Nat.ne_of_lt (Nat.lt_of_lt_of_le A101.lt (Nat.le_trans (Nat.le_refl _) B103_0))
  have c110 : Exa Z T103.heap b101 "java/lang/StringBuilder" := (Exa.keep A101 K103)
  refine sg_ch hw a b101 w_103 kw_103 (List.replicate (8 : Nat) 0) (8 : Nat) (0 : Nat) (1 : Nat) cP ta tk tb B0 (8 : Int32) (3 : Int32) (4 : Int32) (0 : Int32) y0.toInt8.toInt32 d0 C (by decide) (by decide) (by decide) lY0 (by decide) rfl hP n_b101 n_w_103 ne109 htb (by decide) (by decide) hd0 gd0 (by decide) (by decide) X103 rfl O108 c110 P103_0 P103_1 ct0 P103_4 SC ST AT N103 ?_
  intro T111 L111 h111 Y1 X111 e111 K111 j111_0 j111_1 P111_0 P111_1 P111_2 P111_3 N111
  have O113 : Ext Z.heap h111 := (Ext.keep O108 K111 (allS n_b101 (allS n_w_103 all0)))
  refine sg_nx hw a b101 B0 (3 : Int32) (4 : Int32) (0 : Int32) (1 : Int32) y0.toInt8.toInt32 C (by decide) (by decide) (by decide) (by decide) (by decide) (by decide) X111 e111 O113  N111 ?_
  obtain ⟨B1, hB1⟩ : ∃ z, z = ((B0 <<< ((8 : Int32) &&& 31)) ||| (y1.toInt8.toInt32 &&& (255 : Int32))) := ⟨_, rfl⟩
  have vB1 := bufv hB1
  have ne114 : a ≠ w_103 := Nat.ne_of_lt (Nat.lt_of_lt_of_le A0.lt (Nat.le_trans (Nat.le_trans (Nat.le_refl _) E101.1) B103_0))
  have c115 : AL Z h111 a ka .byte (by8 [y0, y1, y2, y3]) := (AL.keep c106 K111 (ninS ne105 (ninS ne114 nin0)))
  refine sg_in hw a ka b101 B0 B1 (3 : Int32) (11 : Int32) (4 : Int32) (1 : Int32) (Slot.val (.int y0.toInt8.toInt32)) y1 1 (by8 [y0, y1, y2, y3]) C (by decide) (by decide) (by decide) (by decide) (by decide) (by8_get rfl) (One.val rfl) hB1 (by decide) (by decide) (by decide) X111 e111 O113 c115 N111 ?_
  obtain ⟨d1, hd1⟩ : ∃ z, z = (((B1.toUInt32 >>> ((6 : Int32) &&& 31).toUInt32).toInt32) &&& (31 : Int32)) := ⟨_, rfl⟩
  have ud1 := ixv (6 : Int32) 6 64 (by decide) (by decide) (by decide) (by decide) hd1
  have gd1 := c_rng ud1
  have c117 : Exa Z h111 b101 "java/lang/StringBuilder" := (Exa.keep c110 K111)
  refine sg_ch hw a b101 w_103 kw_103 Y1 (8 : Nat) (1 : Nat) (2 : Nat) cP ta tk tb B1 (11 : Int32) (6 : Int32) (4 : Int32) (1 : Int32) y1.toInt8.toInt32 d1 C (by decide) (by decide) (by decide) j111_1 (by decide) rfl hP n_b101 n_w_103 ne109 htb (by decide) (by decide) hd1 gd1 (by decide) (by decide) X111 e111 O113 c117 P111_0 P111_1 P111_2 P111_3 SC ST AT N111 ?_
  intro T118 L118 h118 Y2 X118 e118 K118 j118_0 j118_1 P118_0 P118_1 P118_2 P118_3 N118
  obtain ⟨d2, hd2⟩ : ∃ z, z = (((B1.toUInt32 >>> ((1 : Int32) &&& 31).toUInt32).toInt32) &&& (31 : Int32)) := ⟨_, rfl⟩
  have ud2 := ixv (1 : Int32) 1 2 (by decide) (by decide) (by decide) (by decide) hd2
  have gd2 := c_rng ud2
  have c119 : Exa Z h118 b101 "java/lang/StringBuilder" := (Exa.keep c117 K118)
  have O121 : Ext Z.heap h118 := (Ext.keep O113 K118 (allS n_b101 (allS n_w_103 all0)))
  refine sg_ch hw a b101 w_103 kw_103 Y2 (8 : Nat) (2 : Nat) (3 : Nat) cP ta tk tb B1 (6 : Int32) (1 : Int32) (4 : Int32) (1 : Int32) y1.toInt8.toInt32 d2 C (by decide) (by decide) (by decide) j118_1 (by decide) rfl hP n_b101 n_w_103 ne109 htb (by decide) (by decide) hd2 gd2 (by decide) (by decide) X118 e118 O121 c119 P118_0 P118_1 P118_2 P118_3 SC ST AT N118 ?_
  intro T120 L120 h120 Y3 X120 e120 K120 j120_0 j120_1 P120_0 P120_1 P120_2 P120_3 N120
  have O123 : Ext Z.heap h120 := (Ext.keep O121 K120 (allS n_b101 (allS n_w_103 all0)))
  refine sg_nx hw a b101 B1 (1 : Int32) (4 : Int32) (1 : Int32) (2 : Int32) y1.toInt8.toInt32 C (by decide) (by decide) (by decide) (by decide) (by decide) (by decide) X120 e120 O123  N120 ?_
  obtain ⟨B2, hB2⟩ : ∃ z, z = ((B1 <<< ((8 : Int32) &&& 31)) ||| (y2.toInt8.toInt32 &&& (255 : Int32))) := ⟨_, rfl⟩
  have vB2 := bufv hB2
  have c124 : AL Z h120 a ka .byte (by8 [y0, y1, y2, y3]) := (AL.keep (AL.keep c115 K118 (ninS ne105 (ninS ne114 nin0))) K120 (ninS ne105 (ninS ne114 nin0)))
  refine sg_in hw a ka b101 B1 B2 (1 : Int32) (9 : Int32) (4 : Int32) (2 : Int32) (Slot.val (.int y1.toInt8.toInt32)) y2 2 (by8 [y0, y1, y2, y3]) C (by decide) (by decide) (by decide) (by decide) (by decide) (by8_get rfl) (One.val rfl) hB2 (by decide) (by decide) (by decide) X120 e120 O123 c124 N120 ?_
  obtain ⟨d3, hd3⟩ : ∃ z, z = (((B2.toUInt32 >>> ((4 : Int32) &&& 31).toUInt32).toInt32) &&& (31 : Int32)) := ⟨_, rfl⟩
  have ud3 := ixv (4 : Int32) 4 16 (by decide) (by decide) (by decide) (by decide) hd3
  have gd3 := c_rng ud3
  have c126 : Exa Z h120 b101 "java/lang/StringBuilder" := (Exa.keep c119 K120)
  refine sg_ch hw a b101 w_103 kw_103 Y3 (8 : Nat) (3 : Nat) (4 : Nat) cP ta tk tb B2 (9 : Int32) (4 : Int32) (4 : Int32) (2 : Int32) y2.toInt8.toInt32 d3 C (by decide) (by decide) (by decide) j120_1 (by decide) rfl hP n_b101 n_w_103 ne109 htb (by decide) (by decide) hd3 gd3 (by decide) (by decide) X120 e120 O123 c126 P120_0 P120_1 P120_2 P120_3 SC ST AT N120 ?_
  intro T127 L127 h127 Y4 X127 e127 K127 j127_0 j127_1 P127_0 P127_1 P127_2 P127_3 N127
  have O129 : Ext Z.heap h127 := (Ext.keep O123 K127 (allS n_b101 (allS n_w_103 all0)))
  refine sg_nx hw a b101 B2 (4 : Int32) (4 : Int32) (2 : Int32) (3 : Int32) y2.toInt8.toInt32 C (by decide) (by decide) (by decide) (by decide) (by decide) (by decide) X127 e127 O129  N127 ?_
  obtain ⟨B3, hB3⟩ : ∃ z, z = ((B2 <<< ((8 : Int32) &&& 31)) ||| (y3.toInt8.toInt32 &&& (255 : Int32))) := ⟨_, rfl⟩
  have vB3 := bufv hB3
  have c130 : AL Z h127 a ka .byte (by8 [y0, y1, y2, y3]) := (AL.keep c124 K127 (ninS ne105 (ninS ne114 nin0)))
  refine sg_in hw a ka b101 B2 B3 (4 : Int32) (12 : Int32) (4 : Int32) (3 : Int32) (Slot.val (.int y2.toInt8.toInt32)) y3 3 (by8 [y0, y1, y2, y3]) C (by decide) (by decide) (by decide) (by decide) (by decide) (by8_get rfl) (One.val rfl) hB3 (by decide) (by decide) (by decide) X127 e127 O129 c130 N127 ?_
  obtain ⟨d4, hd4⟩ : ∃ z, z = (((B3.toUInt32 >>> ((7 : Int32) &&& 31).toUInt32).toInt32) &&& (31 : Int32)) := ⟨_, rfl⟩
  have ud4 := ixv (7 : Int32) 7 128 (by decide) (by decide) (by decide) (by decide) hd4
  have gd4 := c_rng ud4
  have c132 : Exa Z h127 b101 "java/lang/StringBuilder" := (Exa.keep c126 K127)
  refine sg_ch hw a b101 w_103 kw_103 Y4 (8 : Nat) (4 : Nat) (5 : Nat) cP ta tk tb B3 (12 : Int32) (7 : Int32) (4 : Int32) (3 : Int32) y3.toInt8.toInt32 d4 C (by decide) (by decide) (by decide) j127_1 (by decide) rfl hP n_b101 n_w_103 ne109 htb (by decide) (by decide) hd4 gd4 (by decide) (by decide) X127 e127 O129 c132 P127_0 P127_1 P127_2 P127_3 SC ST AT N127 ?_
  intro T133 L133 h133 Y5 X133 e133 K133 j133_0 j133_1 P133_0 P133_1 P133_2 P133_3 N133
  obtain ⟨d5, hd5⟩ : ∃ z, z = (((B3.toUInt32 >>> ((2 : Int32) &&& 31).toUInt32).toInt32) &&& (31 : Int32)) := ⟨_, rfl⟩
  have ud5 := ixv (2 : Int32) 2 4 (by decide) (by decide) (by decide) (by decide) hd5
  have gd5 := c_rng ud5
  have c134 : Exa Z h133 b101 "java/lang/StringBuilder" := (Exa.keep c132 K133)
  have O136 : Ext Z.heap h133 := (Ext.keep O129 K133 (allS n_b101 (allS n_w_103 all0)))
  refine sg_ch hw a b101 w_103 kw_103 Y5 (8 : Nat) (5 : Nat) (6 : Nat) cP ta tk tb B3 (7 : Int32) (2 : Int32) (4 : Int32) (3 : Int32) y3.toInt8.toInt32 d5 C (by decide) (by decide) (by decide) j133_1 (by decide) rfl hP n_b101 n_w_103 ne109 htb (by decide) (by decide) hd5 gd5 (by decide) (by decide) X133 e133 O136 c134 P133_0 P133_1 P133_2 P133_3 SC ST AT N133 ?_
  intro T135 L135 h135 Y6 X135 e135 K135 j135_0 j135_1 P135_0 P135_1 P135_2 P135_3 N135
  have O138 : Ext Z.heap h135 := (Ext.keep O136 K135 (allS n_b101 (allS n_w_103 all0)))
  refine sg_nx hw a b101 B3 (2 : Int32) (4 : Int32) (3 : Int32) (4 : Int32) y3.toInt8.toInt32 C (by decide) (by decide) (by decide) (by decide) (by decide) (by decide) X135 e135 O138  N135 ?_
  refine Go.iload (pc' := 34) C X135 d9_32 rfl rfl ?_
  refine Go.iload (pc' := 36) C X135 d9_34 rfl rfl ?_
  refine Go.icmpYes (pc' := 93) C X135 d9_36 (flt (x := (4 : Int32)) (y := (4 : Int32)) (by decide)).2.1 (by decide) (by decide) ?_
  obtain ⟨d6, hd6⟩ : ∃ z, z = ((B3 <<< (((5 : Int32) - (2 : Int32)) &&& 31)) &&& (31 : Int32)) := ⟨_, rfl⟩
  have ud6 := ixl ((5 : Int32) - (2 : Int32)) 3 8 (by decide) (by decide) (by decide) hd6
  have gd6 := c_rng ud6
  have c140 : Exa Z h135 b101 "java/lang/StringBuilder" := (Exa.keep c134 K135)
  refine sg_tl hw a b101 w_103 kw_103 Y6 (8 : Nat) (6 : Nat) (7 : Nat) cP ta tk tb B3 (2 : Int32) (4 : Int32) (4 : Int32) y3.toInt8.toInt32 d6 C (by decide) (by decide) (by decide) j135_1 (by decide) rfl hP n_b101 n_w_103 ne109 htb (by decide) hd6 gd6 (by decide) (by decide) X135 e135 O138 c140 P135_0 P135_1 P135_2 P135_3 SC ST AT N135 ?_
  intro T141 L141 h141 Y7 X141 e141 K141 j141_0 j141_1 P141_0 P141_1 P141_2 P141_3 N141
  have c142 : Exa Z h141 b101 "java/lang/StringBuilder" := (Exa.keep c140 K141)
  have O144 : Ext Z.heap h141 := (Ext.keep O138 K141 (allS n_b101 (allS n_w_103 all0)))
  refine sg_pd hw a b101 w_103 kw_103 Y7 (8 : Nat) (7 : Nat) (8 : Nat) cP B3 (2 : Int32) (4 : Int32) (4 : Int32) y3.toInt8.toInt32 C (by decide) (by decide) (by decide) j141_1 (by decide) rfl hP n_b101 n_w_103 ne109 (by decide) (by decide) (by decide) X141 e141 O144 c142 P141_0 P141_1 P141_2 P141_3 SC N141 ?_
  intro T143 L143 h143 Y8 X143 e143 K143 j143_0 j143_1 P143_0 P143_1 P143_2 P143_3 N143
  refine Go.aloadN (pc' := 115) C X143 d9_114 rfl rfl rfl ?_
  have c146 : Exa Z h143 b101 "java/lang/StringBuilder" := (Exa.keep c142 K143)
  have O147 : Ext Z.heap h143 := (Ext.keep O144 K143 (allS n_b101 (allS n_w_103 all0)))
  refine Go.callV (y := mN22) (z := mN22) (a := b101) (pc' := 118) C X143 (tw hw 63 rfl) (tw hw 64 rfl) (notFace_at C.2.1 (tw hw 66 rfl)) (tw hw 66 rfl) (tw hw 65 rfl) c146 (by decide) (rm_sbl l Z a0 hw b101 ((8 : Nat).toInt32) h143 O147 c146 P143_2) (tw hw 67 rfl) (tw hw 45 rfl) e143 (argsL := []) (rest := []) (W := 0) rfl rfl pd_6 rfl (Nat.le_of_eq rfl) rfl (by decide) (by decide) (by decide) (by decide) d9_115 rfl ?_
  intro T145 v145 L145 X145 q145
  obtain ⟨rfl, rfl, e145⟩ := q145
  have N145 := Fr.app N143 (Fr.nil _)
  rw [show (8 : Nat).toInt32 = (8 : Int32) from rfl]
  refine Go.bipush (z := (8 : Int32)) (pc' := 120) C X145 d9_118 rfl rfl ?_
  refine Go.irem (pc' := 121) C X145 d9_120 (by decide) rfl ?_
  rw [show ((8 : Int32) % (8 : Int32)) = (0 : Int32) from by decide]
  refine Go.ifYes (pc' := 134) C X145 d9_121 ((if0 _ _).trans (teq (x := (0 : Int32)) (y := (0 : Int32)) (by decide)).1) (by decide) (by decide) ?_
  have ctE : Fld Z h143 b101 "java/lang/AbstractStringBuilder" "count" "I" (.int Y8.length.toInt32) := by rw [j143_1]; exact P143_2
  refine Go.aloadN (pc' := 135) C X145 d9_134 rfl rfl rfl ?_
  have c150 : Exa Z h143 w_103 "[B" := (Exa.keep (Exa.keep (Exa.keep (Exa.keep (Exa.keep (Exa.keep (Exa.keep (Exa.keep P103_3 K111) K118) K120) K127) K133) K135) K141) K143)
  refine Go.callV (y := mN23) (z := mN23) (a := b101) (pc' := 138) C X145 (tw hw 75 rfl) (tw hw 76 rfl) (notFace_at C.2.1 (tw hw 78 rfl)) (tw hw 78 rfl) (tw hw 77 rfl) c146 (by decide) (rm_tos l Z a0 hw b101 w_103 kw_103 Y8 cP h143 O147 c146 P143_0 P143_1 ctE c150 P143_3 SC (by rw [j143_1]; decide) hP) (tw hw 79 rfl) (tw hw 45 rfl) e145 (argsL := []) (rest := []) (W := 0) rfl rfl pd_18 rfl (Nat.le_of_eq rfl) rfl (by decide) (by decide) (by decide) (by decide) d9_135 rfl ?_
  intro T149 v149 L149 X149 q149
  obtain ⟨s1_149, v_149, kv_149, rfl, N149q, K149, B149_0, B149_1, P149_0, P149_1, P149_2, P149_3⟩ := q149
  have N149 := Fr.app N145 N149q
  have n_s1_149 : Z.heap.size ≤ s1_149 := Nat.le_trans O147.1 B149_0
  have z_s1_149 : h0.size ≤ s1_149 := Nat.le_trans (Nat.le_trans (Nat.le_trans (Nat.le_trans (Nat.le_trans (Nat.le_trans (Nat.le_trans (Nat.le_trans (Nat.le_trans (Nat.le_trans (Nat.le_trans (Nat.le_refl _) E101.1) K103.1) K111.1) K118.1) K120.1) K127.1) K133.1) K135.1) K141.1) K143.1) B149_0
  have n_v_149 : Z.heap.size ≤ v_149 := Nat.le_trans O147.1 B149_1
  have z_v_149 : h0.size ≤ v_149 := Nat.le_trans (Nat.le_trans (Nat.le_trans (Nat.le_trans (Nat.le_trans (Nat.le_trans (Nat.le_trans (Nat.le_trans (Nat.le_trans (Nat.le_trans (Nat.le_trans (Nat.le_refl _) E101.1) K103.1) K111.1) K118.1) K120.1) K127.1) K133.1) K135.1) K141.1) K143.1) B149_1
  have K151 : Keep h0 T149.heap [] := ((((((((((((Keep.refl h0 []).ext E101).trans K103 (allS (Or.inr z_b101) all0)).trans K111 (allS (Or.inr z_b101) (allS (Or.inr z_w_103) all0))).trans K118 (allS (Or.inr z_b101) (allS (Or.inr z_w_103) all0))).trans K120 (allS (Or.inr z_b101) (allS (Or.inr z_w_103) all0))).trans K127 (allS (Or.inr z_b101) (allS (Or.inr z_w_103) all0))).trans K133 (allS (Or.inr z_b101) (allS (Or.inr z_w_103) all0))).trans K135 (allS (Or.inr z_b101) (allS (Or.inr z_w_103) all0))).trans K141 (allS (Or.inr z_b101) (allS (Or.inr z_w_103) all0))).trans K143 (allS (Or.inr z_b101) (allS (Or.inr z_w_103) all0))).trans K149 all0)
  exact Go.retA C X149 rfl d9_138 rfl rfl rfl ⟨s1_149, v_149, kv_149, d0, d1, d2, d3, d4, d5, d6, rfl, N149, K151, z_s1_149, z_v_149, P149_0, P149_1, P149_2, (by have q := P149_3; rw [j143_0, j141_0, j135_0, j133_0, j127_0, j120_0, j118_0, j111_0] at q; exact q), (qv ud0 vB0 p0z), (qv ud1 vB1 (bufw vB0)), (qv ud2 vB1 (bufw vB0)), (qv ud3 vB2 (bufw vB1)), (qv ud4 vB3 (bufw vB2)), (qv ud5 vB3 (bufw vB2)), (ql ud6 vB3)⟩ (by decide) (by decide)
def Q_b32_5 (Z : State) (a : Addr) (ka : ClassId) (cP : Int32) (ta : Addr) (tk : ClassId) (tb : List Value) (y0 : Int32) (y1 : Int32) (y2 : Int32) (y3 : Int32) (y4 : Int32) (h0 : Heap) (rv : Option Value) (h : Heap) (L : List Loc) : Prop := ∃ s1 : Addr, ∃ v : Addr, ∃ kv : ClassId, ∃ c0 : Int32, ∃ c1 : Int32, ∃ c2 : Int32, ∃ c3 : Int32, ∃ c4 : Int32, ∃ c5 : Int32, ∃ c6 : Int32, ∃ c7 : Int32, rv = some (.ref s1) ∧ Fr Z.heap.size L ∧ Keep h0 h [] ∧ h0.size ≤ s1 ∧ h0.size ≤ v ∧ Exa Z h s1 "java/lang/String" ∧ Fld Z h s1 "java/lang/String" "value" "[B" (.ref v) ∧ Fld Z h s1 "java/lang/String" "coder" "B" (.int (0 : Int32)) ∧ AL Z h v kv .byte (by8 [(alf c0), (alf c1), (alf c2), (alf c3), (alf c4), (alf c5), (alf c6), (alf c7)]) ∧ (c0.toInt = ((0) * 256 + y0.toInt % 256) / 8 % 32) ∧ (c1.toInt = ((y0.toInt % 16) * 256 + y1.toInt % 256) / 64 % 32) ∧ (c2.toInt = ((y0.toInt % 16) * 256 + y1.toInt % 256) / 2 % 32) ∧ (c3.toInt = ((y1.toInt % 16) * 256 + y2.toInt % 256) / 16 % 32) ∧ (c4.toInt = ((y2.toInt % 16) * 256 + y3.toInt % 256) / 128 % 32) ∧ (c5.toInt = ((y2.toInt % 16) * 256 + y3.toInt % 256) / 4 % 32) ∧ (c6.toInt = ((y3.toInt % 16) * 256 + y4.toInt % 256) / 32 % 32) ∧ (c7.toInt = ((y3.toInt % 16) * 256 + y4.toInt % 256) / 1 % 32)
theorem rm_b32_5 (l : Launch) (Z : State) (a0 : Array Value) (hw : ∀ d ∈ tables_1, d.before a0 Z = true) (a : Addr) (ka : ClassId) (cP : Int32) (ta : Addr) (tk : ClassId) (tb : List Value) (y0 : Int32) (y1 : Int32) (y2 : Int32) (y3 : Int32) (y4 : Int32) (h0 : Heap) (O0 : Ext Z.heap h0) (A0 : AL Z h0 a ka .byte (by8 [y0, y1, y2, y3, y4])) (SC : Sta Z Z.heap "java/lang/String" "COMPACT_STRINGS" "Z" (.int cP)) (ST : Sta Z Z.heap "com/example/barrault/barrault/io/WarcDigest" "BASE32" "[C" (.ref ta)) (AT : AL Z Z.heap ta tk .char tb) (hP : ¬ cP = (0 : Int32)) (htb : ∀ c : Int32, 0 ≤ c.toInt → c.toInt < 32 → tb[c.toNatClampNeg]? = some (.int (alf c))) :
    Met1 l Z mN0 prog_23_method_5_code 8 (some (.object "java/lang/String")) ({ frames := 5, cells := 4, slots := 40, locals := 71 } : Room) #[(.ref a)] h0 (Q_b32_5 Z a ka cP ta tk tb y0 y1 y2 y3 y4 h0) := by
  refine Met1.of_body (Ls := #[.val (.ref a), .unset, .unset, .unset, .unset, .unset, .unset, .unset]) pf_9 (fun m => by first | (simp [entryFrame, mkF, argsToLocals, Value.category]; done) | rfl) ?_
  intro p e s m below meth c T0 C X0 e0
  have N0 : Fr Z.heap.size [] := Fr.nil _
  refine Go.newO (pc' := 3) C X0 (tw hw 43 rfl) (tw hw 44 rfl) (tw hw 45 rfl) e0 (by decide) (by decide) d9_0 rfl ?_
  intro T101 h101 b101 X101 e101 g101 E101 A101 D101
  have n_b101 : Z.heap.size ≤ b101 := Nat.le_trans O0.1 (Nat.le_of_eq g101.symm)
  have z_b101 : h0.size ≤ b101 := Nat.le_trans (Nat.le_refl _) (Nat.le_of_eq g101.symm)
  have F101_value : Fld Z h101 b101 "java/lang/AbstractStringBuilder" "value" "[B" .null := D101 (Or.inl (tw hw 60 rfl)) (ty := (.array .byte)) (by decide)
  have F101_coder : Fld Z h101 b101 "java/lang/AbstractStringBuilder" "coder" "B" (.int (0 : Int32)) := D101 (Or.inl (tw hw 62 rfl)) (ty := .byte) (by decide)
  have F101_count : Fld Z h101 b101 "java/lang/AbstractStringBuilder" "count" "I" (.int (0 : Int32)) := D101 (Or.inl (tw hw 74 rfl)) (ty := .int) (by decide)
  refine Go.dup (pc' := 4) C X101 d9_3 rfl rfl ?_
  refine Go.aloadN (pc' := 5) C X101 d9_4 rfl rfl rfl ?_
  have c102 : AL Z h101 a ka .byte (by8 [y0, y1, y2, y3, y4]) := (AL.ext E101 A0)
  refine Go.alen (z := (5 : Int32)) (pc' := 6) C X101 e101 c102 (by rw [by8_len]; rfl) d9_5 rfl ?_
  refine Go.iconst (z := (4 : Int32)) (pc' := 7) C X101 d9_6 rfl rfl ?_
  refine Go.iadd (pc' := 8) C X101 d9_7 rfl ?_
  rw [show ((5 : Int32) + (4 : Int32)) = (9 : Int32) from by decide]
  refine Go.iconst (z := (5 : Int32)) (pc' := 9) C X101 d9_8 rfl rfl ?_
  refine Go.idiv (pc' := 10) C X101 d9_9 (by decide) rfl ?_
  refine Go.bipush (z := (8 : Int32)) (pc' := 12) C X101 d9_10 rfl rfl ?_
  refine Go.imul (pc' := 13) C X101 d9_12 rfl ?_
  rw [show (((9 : Int32) / (5 : Int32)) * (8 : Int32)) = (8 : Nat).toInt32 from by decide]
  have O104 : Ext Z.heap h101 := (Ext.trans O0 E101)
  refine Go.callI (y := mN20) (a := b101) (pc' := 16) C X101 rfl (tw hw 46 rfl) (tw hw 47 rfl) (by decide) (rm_sbI l Z a0 hw b101 ((8 : Nat)) cP h101 O104 A101 F101_value F101_coder F101_count SC n_b101 hP (by decide)) (tw hw 48 rfl) (tw hw 45 rfl) e101 (argsL := [(.int (8 : Nat).toInt32)]) (rest := [(.ref b101)]) (W := 1) rfl rfl pd_5 rfl (Nat.le_of_eq rfl) rfl (by decide) (by decide) (by decide) (by decide) rfl d9_13 rfl ?_
  intro T103 v103 L103 X103 q103
  obtain ⟨w_103, kw_103, rfl, N103q, K103, B103_0, P103_0, P103_1, P103_2, P103_3, P103_4⟩ := q103
  have N103 := Fr.app N0 N103q
  have n_w_103 : Z.heap.size ≤ w_103 := Nat.le_trans O104.1 B103_0
  have z_w_103 : h0.size ≤ w_103 := Nat.le_trans (Nat.le_trans (Nat.le_refl _) E101.1) B103_0
  refine Go.astoreN (Ls' := #[.val (.ref a), .val (.ref b101), .unset, .unset, .unset, .unset, .unset, .unset]) (pc' := 17) C X103 d9_16 rfl rfl rfl ?_
  refine Go.iconst (z := (0 : Int32)) (pc' := 18) C X103 d9_17 rfl rfl ?_
  refine Go.istoreN (Ls' := #[.val (.ref a), .val (.ref b101), .val (.int (0 : Int32)), .unset, .unset, .unset, .unset, .unset]) (pc' := 19) C X103 d9_18 rfl rfl ?_
  refine Go.iconst (z := (0 : Int32)) (pc' := 20) C X103 d9_19 rfl rfl ?_
  refine Go.istoreN (Ls' := #[.val (.ref a), .val (.ref b101), .val (.int (0 : Int32)), .val (.int (0 : Int32)), .unset, .unset, .unset, .unset]) (pc' := 21) C X103 d9_20 rfl rfl ?_
  refine Go.aloadN (pc' := 22) C X103 d9_21 rfl rfl rfl ?_
  refine Go.astore (Ls' := #[.val (.ref a), .val (.ref b101), .val (.int (0 : Int32)), .val (.int (0 : Int32)), .val (.ref a), .unset, .unset, .unset]) (pc' := 24) C X103 d9_22 rfl rfl rfl ?_
  refine Go.aload (pc' := 26) C X103 d9_24 rfl rfl rfl ?_
  have ne105 : a ≠ b101 := Nat.ne_of_lt (Nat.lt_of_lt_of_le A0.lt (Nat.le_trans (Nat.le_refl _) (Nat.le_of_eq g101.symm)))
  have c106 : AL Z T103.heap a ka .byte (by8 [y0, y1, y2, y3, y4]) := (AL.keep c102 K103 (ninS ne105 nin0))
  refine Go.alen (z := (5 : Int32)) (pc' := 27) C X103 rfl c106 (by rw [by8_len]; rfl) d9_26 rfl ?_
  refine Go.istore (Ls' := #[.val (.ref a), .val (.ref b101), .val (.int (0 : Int32)), .val (.int (0 : Int32)), .val (.ref a), .val (.int (5 : Int32)), .unset, .unset]) (pc' := 29) C X103 d9_27 rfl rfl ?_
  refine Go.iconst (z := (0 : Int32)) (pc' := 30) C X103 d9_29 rfl rfl ?_
  refine Go.istore (Ls' := #[.val (.ref a), .val (.ref b101), .val (.int (0 : Int32)), .val (.int (0 : Int32)), .val (.ref a), .val (.int (5 : Int32)), .val (.int (0 : Int32)), .unset]) (pc' := 32) C X103 d9_30 rfl rfl ?_
  obtain ⟨B0, hB0⟩ : ∃ z, z = (((0 : Int32) <<< ((8 : Int32) &&& 31)) ||| (y0.toInt8.toInt32 &&& (255 : Int32))) := ⟨_, rfl⟩
  have vB0 := bufv hB0
  have O108 : Ext Z.heap T103.heap := (Ext.keep O104 K103 (allS n_b101 all0))
  refine sg_in hw a ka b101 (0 : Int32) B0 (0 : Int32) (8 : Int32) (5 : Int32) (0 : Int32) Slot.unset y0 0 (by8 [y0, y1, y2, y3, y4]) C (by decide) (by decide) (by decide) (by decide) (by decide) (by8_get rfl) One.u hB0 (by decide) (by decide) (by decide) X103 rfl O108 c106 N103 ?_
  obtain ⟨d0, hd0⟩ : ∃ z, z = (((B0.toUInt32 >>> ((3 : Int32) &&& 31).toUInt32).toInt32) &&& (31 : Int32)) := ⟨_, rfl⟩
  have ud0 := ixv (3 : Int32) 3 8 (by decide) (by decide) (by decide) (by decide) hd0
  have gd0 := c_rng ud0
  have lY0 : ((List.replicate (8 : Nat) 0) : List Int32).length = 8 := by simp
  have ct0 : Fld Z T103.heap b101 "java/lang/AbstractStringBuilder" "count" "I" (.int (0 : Nat).toInt32) := P103_2
  have ne109 : b101 ≠ w_103 := Nat.ne_of_lt (Nat.lt_of_lt_of_le A101.lt (Nat.le_trans (Nat.le_refl _) B103_0))
  have c110 : Exa Z T103.heap b101 "java/lang/StringBuilder" := (Exa.keep A101 K103)
  refine sg_ch hw a b101 w_103 kw_103 (List.replicate (8 : Nat) 0) (8 : Nat) (0 : Nat) (1 : Nat) cP ta tk tb B0 (8 : Int32) (3 : Int32) (5 : Int32) (0 : Int32) y0.toInt8.toInt32 d0 C (by decide) (by decide) (by decide) lY0 (by decide) rfl hP n_b101 n_w_103 ne109 htb (by decide) (by decide) hd0 gd0 (by decide) (by decide) X103 rfl O108 c110 P103_0 P103_1 ct0 P103_4 SC ST AT N103 ?_
  intro T111 L111 h111 Y1 X111 e111 K111 j111_0 j111_1 P111_0 P111_1 P111_2 P111_3 N111
  have O113 : Ext Z.heap h111 := (Ext.keep O108 K111 (allS n_b101 (allS n_w_103 all0)))
  refine sg_nx hw a b101 B0 (3 : Int32) (5 : Int32) (0 : Int32) (1 : Int32) y0.toInt8.toInt32 C (by decide) (by decide) (by decide) (by decide) (by decide) (by decide) X111 e111 O113  N111 ?_
  obtain ⟨B1, hB1⟩ : ∃ z, z = ((B0 <<< ((8 : Int32) &&& 31)) ||| (y1.toInt8.toInt32 &&& (255 : Int32))) := ⟨_, rfl⟩
  have vB1 := bufv hB1
  have ne114 : a ≠ w_103 := Nat.ne_of_lt (Nat.lt_of_lt_of_le A0.lt (Nat.le_trans (Nat.le_trans (Nat.le_refl _) E101.1) B103_0))
  have c115 : AL Z h111 a ka .byte (by8 [y0, y1, y2, y3, y4]) := (AL.keep c106 K111 (ninS ne105 (ninS ne114 nin0)))
  refine sg_in hw a ka b101 B0 B1 (3 : Int32) (11 : Int32) (5 : Int32) (1 : Int32) (Slot.val (.int y0.toInt8.toInt32)) y1 1 (by8 [y0, y1, y2, y3, y4]) C (by decide) (by decide) (by decide) (by decide) (by decide) (by8_get rfl) (One.val rfl) hB1 (by decide) (by decide) (by decide) X111 e111 O113 c115 N111 ?_
  obtain ⟨d1, hd1⟩ : ∃ z, z = (((B1.toUInt32 >>> ((6 : Int32) &&& 31).toUInt32).toInt32) &&& (31 : Int32)) := ⟨_, rfl⟩
  have ud1 := ixv (6 : Int32) 6 64 (by decide) (by decide) (by decide) (by decide) hd1
  have gd1 := c_rng ud1
  have c117 : Exa Z h111 b101 "java/lang/StringBuilder" := (Exa.keep c110 K111)
  refine sg_ch hw a b101 w_103 kw_103 Y1 (8 : Nat) (1 : Nat) (2 : Nat) cP ta tk tb B1 (11 : Int32) (6 : Int32) (5 : Int32) (1 : Int32) y1.toInt8.toInt32 d1 C (by decide) (by decide) (by decide) j111_1 (by decide) rfl hP n_b101 n_w_103 ne109 htb (by decide) (by decide) hd1 gd1 (by decide) (by decide) X111 e111 O113 c117 P111_0 P111_1 P111_2 P111_3 SC ST AT N111 ?_
  intro T118 L118 h118 Y2 X118 e118 K118 j118_0 j118_1 P118_0 P118_1 P118_2 P118_3 N118
  obtain ⟨d2, hd2⟩ : ∃ z, z = (((B1.toUInt32 >>> ((1 : Int32) &&& 31).toUInt32).toInt32) &&& (31 : Int32)) := ⟨_, rfl⟩
  have ud2 := ixv (1 : Int32) 1 2 (by decide) (by decide) (by decide) (by decide) hd2
  have gd2 := c_rng ud2
  have c119 : Exa Z h118 b101 "java/lang/StringBuilder" := (Exa.keep c117 K118)
  have O121 : Ext Z.heap h118 := (Ext.keep O113 K118 (allS n_b101 (allS n_w_103 all0)))
  refine sg_ch hw a b101 w_103 kw_103 Y2 (8 : Nat) (2 : Nat) (3 : Nat) cP ta tk tb B1 (6 : Int32) (1 : Int32) (5 : Int32) (1 : Int32) y1.toInt8.toInt32 d2 C (by decide) (by decide) (by decide) j118_1 (by decide) rfl hP n_b101 n_w_103 ne109 htb (by decide) (by decide) hd2 gd2 (by decide) (by decide) X118 e118 O121 c119 P118_0 P118_1 P118_2 P118_3 SC ST AT N118 ?_
  intro T120 L120 h120 Y3 X120 e120 K120 j120_0 j120_1 P120_0 P120_1 P120_2 P120_3 N120
  have O123 : Ext Z.heap h120 := (Ext.keep O121 K120 (allS n_b101 (allS n_w_103 all0)))
  refine sg_nx hw a b101 B1 (1 : Int32) (5 : Int32) (1 : Int32) (2 : Int32) y1.toInt8.toInt32 C (by decide) (by decide) (by decide) (by decide) (by decide) (by decide) X120 e120 O123  N120 ?_
  obtain ⟨B2, hB2⟩ : ∃ z, z = ((B1 <<< ((8 : Int32) &&& 31)) ||| (y2.toInt8.toInt32 &&& (255 : Int32))) := ⟨_, rfl⟩
  have vB2 := bufv hB2
  have c124 : AL Z h120 a ka .byte (by8 [y0, y1, y2, y3, y4]) := (AL.keep (AL.keep c115 K118 (ninS ne105 (ninS ne114 nin0))) K120 (ninS ne105 (ninS ne114 nin0)))
  refine sg_in hw a ka b101 B1 B2 (1 : Int32) (9 : Int32) (5 : Int32) (2 : Int32) (Slot.val (.int y1.toInt8.toInt32)) y2 2 (by8 [y0, y1, y2, y3, y4]) C (by decide) (by decide) (by decide) (by decide) (by decide) (by8_get rfl) (One.val rfl) hB2 (by decide) (by decide) (by decide) X120 e120 O123 c124 N120 ?_
  obtain ⟨d3, hd3⟩ : ∃ z, z = (((B2.toUInt32 >>> ((4 : Int32) &&& 31).toUInt32).toInt32) &&& (31 : Int32)) := ⟨_, rfl⟩
  have ud3 := ixv (4 : Int32) 4 16 (by decide) (by decide) (by decide) (by decide) hd3
  have gd3 := c_rng ud3
  have c126 : Exa Z h120 b101 "java/lang/StringBuilder" := (Exa.keep c119 K120)
  refine sg_ch hw a b101 w_103 kw_103 Y3 (8 : Nat) (3 : Nat) (4 : Nat) cP ta tk tb B2 (9 : Int32) (4 : Int32) (5 : Int32) (2 : Int32) y2.toInt8.toInt32 d3 C (by decide) (by decide) (by decide) j120_1 (by decide) rfl hP n_b101 n_w_103 ne109 htb (by decide) (by decide) hd3 gd3 (by decide) (by decide) X120 e120 O123 c126 P120_0 P120_1 P120_2 P120_3 SC ST AT N120 ?_
  intro T127 L127 h127 Y4 X127 e127 K127 j127_0 j127_1 P127_0 P127_1 P127_2 P127_3 N127
  have O129 : Ext Z.heap h127 := (Ext.keep O123 K127 (allS n_b101 (allS n_w_103 all0)))
  refine sg_nx hw a b101 B2 (4 : Int32) (5 : Int32) (2 : Int32) (3 : Int32) y2.toInt8.toInt32 C (by decide) (by decide) (by decide) (by decide) (by decide) (by decide) X127 e127 O129  N127 ?_
  obtain ⟨B3, hB3⟩ : ∃ z, z = ((B2 <<< ((8 : Int32) &&& 31)) ||| (y3.toInt8.toInt32 &&& (255 : Int32))) := ⟨_, rfl⟩
  have vB3 := bufv hB3
  have c130 : AL Z h127 a ka .byte (by8 [y0, y1, y2, y3, y4]) := (AL.keep c124 K127 (ninS ne105 (ninS ne114 nin0)))
  refine sg_in hw a ka b101 B2 B3 (4 : Int32) (12 : Int32) (5 : Int32) (3 : Int32) (Slot.val (.int y2.toInt8.toInt32)) y3 3 (by8 [y0, y1, y2, y3, y4]) C (by decide) (by decide) (by decide) (by decide) (by decide) (by8_get rfl) (One.val rfl) hB3 (by decide) (by decide) (by decide) X127 e127 O129 c130 N127 ?_
  obtain ⟨d4, hd4⟩ : ∃ z, z = (((B3.toUInt32 >>> ((7 : Int32) &&& 31).toUInt32).toInt32) &&& (31 : Int32)) := ⟨_, rfl⟩
  have ud4 := ixv (7 : Int32) 7 128 (by decide) (by decide) (by decide) (by decide) hd4
  have gd4 := c_rng ud4
  have c132 : Exa Z h127 b101 "java/lang/StringBuilder" := (Exa.keep c126 K127)
  refine sg_ch hw a b101 w_103 kw_103 Y4 (8 : Nat) (4 : Nat) (5 : Nat) cP ta tk tb B3 (12 : Int32) (7 : Int32) (5 : Int32) (3 : Int32) y3.toInt8.toInt32 d4 C (by decide) (by decide) (by decide) j127_1 (by decide) rfl hP n_b101 n_w_103 ne109 htb (by decide) (by decide) hd4 gd4 (by decide) (by decide) X127 e127 O129 c132 P127_0 P127_1 P127_2 P127_3 SC ST AT N127 ?_
  intro T133 L133 h133 Y5 X133 e133 K133 j133_0 j133_1 P133_0 P133_1 P133_2 P133_3 N133
  obtain ⟨d5, hd5⟩ : ∃ z, z = (((B3.toUInt32 >>> ((2 : Int32) &&& 31).toUInt32).toInt32) &&& (31 : Int32)) := ⟨_, rfl⟩
  have ud5 := ixv (2 : Int32) 2 4 (by decide) (by decide) (by decide) (by decide) hd5
  have gd5 := c_rng ud5
  have c134 : Exa Z h133 b101 "java/lang/StringBuilder" := (Exa.keep c132 K133)
  have O136 : Ext Z.heap h133 := (Ext.keep O129 K133 (allS n_b101 (allS n_w_103 all0)))
  refine sg_ch hw a b101 w_103 kw_103 Y5 (8 : Nat) (5 : Nat) (6 : Nat) cP ta tk tb B3 (7 : Int32) (2 : Int32) (5 : Int32) (3 : Int32) y3.toInt8.toInt32 d5 C (by decide) (by decide) (by decide) j133_1 (by decide) rfl hP n_b101 n_w_103 ne109 htb (by decide) (by decide) hd5 gd5 (by decide) (by decide) X133 e133 O136 c134 P133_0 P133_1 P133_2 P133_3 SC ST AT N133 ?_
  intro T135 L135 h135 Y6 X135 e135 K135 j135_0 j135_1 P135_0 P135_1 P135_2 P135_3 N135
  have O138 : Ext Z.heap h135 := (Ext.keep O136 K135 (allS n_b101 (allS n_w_103 all0)))
  refine sg_nx hw a b101 B3 (2 : Int32) (5 : Int32) (3 : Int32) (4 : Int32) y3.toInt8.toInt32 C (by decide) (by decide) (by decide) (by decide) (by decide) (by decide) X135 e135 O138  N135 ?_
  obtain ⟨B4, hB4⟩ : ∃ z, z = ((B3 <<< ((8 : Int32) &&& 31)) ||| (y4.toInt8.toInt32 &&& (255 : Int32))) := ⟨_, rfl⟩
  have vB4 := bufv hB4
  have c139 : AL Z h135 a ka .byte (by8 [y0, y1, y2, y3, y4]) := (AL.keep (AL.keep c130 K133 (ninS ne105 (ninS ne114 nin0))) K135 (ninS ne105 (ninS ne114 nin0)))
  refine sg_in hw a ka b101 B3 B4 (2 : Int32) (10 : Int32) (5 : Int32) (4 : Int32) (Slot.val (.int y3.toInt8.toInt32)) y4 4 (by8 [y0, y1, y2, y3, y4]) C (by decide) (by decide) (by decide) (by decide) (by decide) (by8_get rfl) (One.val rfl) hB4 (by decide) (by decide) (by decide) X135 e135 O138 c139 N135 ?_
  obtain ⟨d6, hd6⟩ : ∃ z, z = (((B4.toUInt32 >>> ((5 : Int32) &&& 31).toUInt32).toInt32) &&& (31 : Int32)) := ⟨_, rfl⟩
  have ud6 := ixv (5 : Int32) 5 32 (by decide) (by decide) (by decide) (by decide) hd6
  have gd6 := c_rng ud6
  have c141 : Exa Z h135 b101 "java/lang/StringBuilder" := (Exa.keep c134 K135)
  refine sg_ch hw a b101 w_103 kw_103 Y6 (8 : Nat) (6 : Nat) (7 : Nat) cP ta tk tb B4 (10 : Int32) (5 : Int32) (5 : Int32) (4 : Int32) y4.toInt8.toInt32 d6 C (by decide) (by decide) (by decide) j135_1 (by decide) rfl hP n_b101 n_w_103 ne109 htb (by decide) (by decide) hd6 gd6 (by decide) (by decide) X135 e135 O138 c141 P135_0 P135_1 P135_2 P135_3 SC ST AT N135 ?_
  intro T142 L142 h142 Y7 X142 e142 K142 j142_0 j142_1 P142_0 P142_1 P142_2 P142_3 N142
  obtain ⟨d7, hd7⟩ : ∃ z, z = (((B4.toUInt32 >>> ((0 : Int32) &&& 31).toUInt32).toInt32) &&& (31 : Int32)) := ⟨_, rfl⟩
  have ud7 := ixv0 hd7
  have gd7 := c_rng ud7
  have c143 : Exa Z h142 b101 "java/lang/StringBuilder" := (Exa.keep c141 K142)
  have O145 : Ext Z.heap h142 := (Ext.keep O138 K142 (allS n_b101 (allS n_w_103 all0)))
  refine sg_ch hw a b101 w_103 kw_103 Y7 (8 : Nat) (7 : Nat) (8 : Nat) cP ta tk tb B4 (5 : Int32) (0 : Int32) (5 : Int32) (4 : Int32) y4.toInt8.toInt32 d7 C (by decide) (by decide) (by decide) j142_1 (by decide) rfl hP n_b101 n_w_103 ne109 htb (by decide) (by decide) hd7 gd7 (by decide) (by decide) X142 e142 O145 c143 P142_0 P142_1 P142_2 P142_3 SC ST AT N142 ?_
  intro T144 L144 h144 Y8 X144 e144 K144 j144_0 j144_1 P144_0 P144_1 P144_2 P144_3 N144
  have O147 : Ext Z.heap h144 := (Ext.keep O145 K144 (allS n_b101 (allS n_w_103 all0)))
  refine sg_nx hw a b101 B4 (0 : Int32) (5 : Int32) (4 : Int32) (5 : Int32) y4.toInt8.toInt32 C (by decide) (by decide) (by decide) (by decide) (by decide) (by decide) X144 e144 O147  N144 ?_
  refine Go.iload (pc' := 34) C X144 d9_32 rfl rfl ?_
  refine Go.iload (pc' := 36) C X144 d9_34 rfl rfl ?_
  refine Go.icmpYes (pc' := 93) C X144 d9_36 (flt (x := (5 : Int32)) (y := (5 : Int32)) (by decide)).2.1 (by decide) (by decide) ?_
  refine Go.iloadN (pc' := 94) C X144 d9_93 rfl rfl ?_
  refine Go.ifYes (pc' := 114) C X144 d9_94 ((if0 _ _).trans (flt (x := (0 : Int32)) (y := (0 : Int32)) (by decide)).2.2.2) (by decide) (by decide) ?_
  refine Go.aloadN (pc' := 115) C X144 d9_114 rfl rfl rfl ?_
  have c151 : Exa Z h144 b101 "java/lang/StringBuilder" := (Exa.keep c143 K144)
  refine Go.callV (y := mN22) (z := mN22) (a := b101) (pc' := 118) C X144 (tw hw 63 rfl) (tw hw 64 rfl) (notFace_at C.2.1 (tw hw 66 rfl)) (tw hw 66 rfl) (tw hw 65 rfl) c151 (by decide) (rm_sbl l Z a0 hw b101 ((8 : Nat).toInt32) h144 O147 c151 P144_2) (tw hw 67 rfl) (tw hw 45 rfl) e144 (argsL := []) (rest := []) (W := 0) rfl rfl pd_6 rfl (Nat.le_of_eq rfl) rfl (by decide) (by decide) (by decide) (by decide) d9_115 rfl ?_
  intro T150 v150 L150 X150 q150
  obtain ⟨rfl, rfl, e150⟩ := q150
  have N150 := Fr.app N144 (Fr.nil _)
  rw [show (8 : Nat).toInt32 = (8 : Int32) from rfl]
  refine Go.bipush (z := (8 : Int32)) (pc' := 120) C X150 d9_118 rfl rfl ?_
  refine Go.irem (pc' := 121) C X150 d9_120 (by decide) rfl ?_
  rw [show ((8 : Int32) % (8 : Int32)) = (0 : Int32) from by decide]
  refine Go.ifYes (pc' := 134) C X150 d9_121 ((if0 _ _).trans (teq (x := (0 : Int32)) (y := (0 : Int32)) (by decide)).1) (by decide) (by decide) ?_
  have ctE : Fld Z h144 b101 "java/lang/AbstractStringBuilder" "count" "I" (.int Y8.length.toInt32) := by rw [j144_1]; exact P144_2
  refine Go.aloadN (pc' := 135) C X150 d9_134 rfl rfl rfl ?_
  have c154 : Exa Z h144 w_103 "[B" := (Exa.keep (Exa.keep (Exa.keep (Exa.keep (Exa.keep (Exa.keep (Exa.keep (Exa.keep P103_3 K111) K118) K120) K127) K133) K135) K142) K144)
  refine Go.callV (y := mN23) (z := mN23) (a := b101) (pc' := 138) C X150 (tw hw 75 rfl) (tw hw 76 rfl) (notFace_at C.2.1 (tw hw 78 rfl)) (tw hw 78 rfl) (tw hw 77 rfl) c151 (by decide) (rm_tos l Z a0 hw b101 w_103 kw_103 Y8 cP h144 O147 c151 P144_0 P144_1 ctE c154 P144_3 SC (by rw [j144_1]; decide) hP) (tw hw 79 rfl) (tw hw 45 rfl) e150 (argsL := []) (rest := []) (W := 0) rfl rfl pd_18 rfl (Nat.le_of_eq rfl) rfl (by decide) (by decide) (by decide) (by decide) d9_135 rfl ?_
  intro T153 v153 L153 X153 q153
  obtain ⟨s1_153, v_153, kv_153, rfl, N153q, K153, B153_0, B153_1, P153_0, P153_1, P153_2, P153_3⟩ := q153
  have N153 := Fr.app N150 N153q
  have n_s1_153 : Z.heap.size ≤ s1_153 := Nat.le_trans O147.1 B153_0
  have z_s1_153 : h0.size ≤ s1_153 := Nat.le_trans (Nat.le_trans (Nat.le_trans (Nat.le_trans (Nat.le_trans (Nat.le_trans (Nat.le_trans (Nat.le_trans (Nat.le_trans (Nat.le_trans (Nat.le_trans (Nat.le_refl _) E101.1) K103.1) K111.1) K118.1) K120.1) K127.1) K133.1) K135.1) K142.1) K144.1) B153_0
  have n_v_153 : Z.heap.size ≤ v_153 := Nat.le_trans O147.1 B153_1
  have z_v_153 : h0.size ≤ v_153 := Nat.le_trans (Nat.le_trans (Nat.le_trans (Nat.le_trans (Nat.le_trans (Nat.le_trans (Nat.le_trans (Nat.le_trans (Nat.le_trans (Nat.le_trans (Nat.le_trans (Nat.le_refl _) E101.1) K103.1) K111.1) K118.1) K120.1) K127.1) K133.1) K135.1) K142.1) K144.1) B153_1
  have K155 : Keep h0 T153.heap [] := ((((((((((((Keep.refl h0 []).ext E101).trans K103 (allS (Or.inr z_b101) all0)).trans K111 (allS (Or.inr z_b101) (allS (Or.inr z_w_103) all0))).trans K118 (allS (Or.inr z_b101) (allS (Or.inr z_w_103) all0))).trans K120 (allS (Or.inr z_b101) (allS (Or.inr z_w_103) all0))).trans K127 (allS (Or.inr z_b101) (allS (Or.inr z_w_103) all0))).trans K133 (allS (Or.inr z_b101) (allS (Or.inr z_w_103) all0))).trans K135 (allS (Or.inr z_b101) (allS (Or.inr z_w_103) all0))).trans K142 (allS (Or.inr z_b101) (allS (Or.inr z_w_103) all0))).trans K144 (allS (Or.inr z_b101) (allS (Or.inr z_w_103) all0))).trans K153 all0)
  exact Go.retA C X153 rfl d9_138 rfl rfl rfl ⟨s1_153, v_153, kv_153, d0, d1, d2, d3, d4, d5, d6, d7, rfl, N153, K155, z_s1_153, z_v_153, P153_0, P153_1, P153_2, (by have q := P153_3; rw [j144_0, j142_0, j135_0, j133_0, j127_0, j120_0, j118_0, j111_0] at q; exact q), (qv ud0 vB0 p0z), (qv ud1 vB1 (bufw vB0)), (qv ud2 vB1 (bufw vB0)), (qv ud3 vB2 (bufw vB1)), (qv ud4 vB3 (bufw vB2)), (qv ud5 vB3 (bufw vB2)), (qv ud6 vB4 (bufw vB3)), (qv ud7 vB4 (bufw vB3))⟩ (by decide) (by decide)
def Q_b32_6 (Z : State) (a : Addr) (ka : ClassId) (cP : Int32) (ta : Addr) (tk : ClassId) (tb : List Value) (y0 : Int32) (y1 : Int32) (y2 : Int32) (y3 : Int32) (y4 : Int32) (y5 : Int32) (h0 : Heap) (rv : Option Value) (h : Heap) (L : List Loc) : Prop := ∃ s1 : Addr, ∃ v : Addr, ∃ kv : ClassId, ∃ c0 : Int32, ∃ c1 : Int32, ∃ c2 : Int32, ∃ c3 : Int32, ∃ c4 : Int32, ∃ c5 : Int32, ∃ c6 : Int32, ∃ c7 : Int32, ∃ c8 : Int32, ∃ c9 : Int32, rv = some (.ref s1) ∧ Fr Z.heap.size L ∧ Keep h0 h [] ∧ h0.size ≤ s1 ∧ h0.size ≤ v ∧ Exa Z h s1 "java/lang/String" ∧ Fld Z h s1 "java/lang/String" "value" "[B" (.ref v) ∧ Fld Z h s1 "java/lang/String" "coder" "B" (.int (0 : Int32)) ∧ AL Z h v kv .byte (by8 [(alf c0), (alf c1), (alf c2), (alf c3), (alf c4), (alf c5), (alf c6), (alf c7), (alf c8), (alf c9), 61, 61, 61, 61, 61, 61]) ∧ (c0.toInt = ((0) * 256 + y0.toInt % 256) / 8 % 32) ∧ (c1.toInt = ((y0.toInt % 16) * 256 + y1.toInt % 256) / 64 % 32) ∧ (c2.toInt = ((y0.toInt % 16) * 256 + y1.toInt % 256) / 2 % 32) ∧ (c3.toInt = ((y1.toInt % 16) * 256 + y2.toInt % 256) / 16 % 32) ∧ (c4.toInt = ((y2.toInt % 16) * 256 + y3.toInt % 256) / 128 % 32) ∧ (c5.toInt = ((y2.toInt % 16) * 256 + y3.toInt % 256) / 4 % 32) ∧ (c6.toInt = ((y3.toInt % 16) * 256 + y4.toInt % 256) / 32 % 32) ∧ (c7.toInt = ((y3.toInt % 16) * 256 + y4.toInt % 256) / 1 % 32) ∧ (c8.toInt = ((y4.toInt % 16) * 256 + y5.toInt % 256) / 8 % 32) ∧ (c9.toInt = (y5.toInt % 256) * 4 % 32)
theorem rm_b32_6 (l : Launch) (Z : State) (a0 : Array Value) (hw : ∀ d ∈ tables_1, d.before a0 Z = true) (a : Addr) (ka : ClassId) (cP : Int32) (ta : Addr) (tk : ClassId) (tb : List Value) (y0 : Int32) (y1 : Int32) (y2 : Int32) (y3 : Int32) (y4 : Int32) (y5 : Int32) (h0 : Heap) (O0 : Ext Z.heap h0) (A0 : AL Z h0 a ka .byte (by8 [y0, y1, y2, y3, y4, y5])) (SC : Sta Z Z.heap "java/lang/String" "COMPACT_STRINGS" "Z" (.int cP)) (ST : Sta Z Z.heap "com/example/barrault/barrault/io/WarcDigest" "BASE32" "[C" (.ref ta)) (AT : AL Z Z.heap ta tk .char tb) (hP : ¬ cP = (0 : Int32)) (htb : ∀ c : Int32, 0 ≤ c.toInt → c.toInt < 32 → tb[c.toNatClampNeg]? = some (.int (alf c))) :
    Met1 l Z mN0 prog_23_method_5_code 8 (some (.object "java/lang/String")) ({ frames := 5, cells := 4, slots := 40, locals := 71 } : Room) #[(.ref a)] h0 (Q_b32_6 Z a ka cP ta tk tb y0 y1 y2 y3 y4 y5 h0) := by
  refine Met1.of_body (Ls := #[.val (.ref a), .unset, .unset, .unset, .unset, .unset, .unset, .unset]) pf_9 (fun m => by first | (simp [entryFrame, mkF, argsToLocals, Value.category]; done) | rfl) ?_
  intro p e s m below meth c T0 C X0 e0
  have N0 : Fr Z.heap.size [] := Fr.nil _
  refine Go.newO (pc' := 3) C X0 (tw hw 43 rfl) (tw hw 44 rfl) (tw hw 45 rfl) e0 (by decide) (by decide) d9_0 rfl ?_
  intro T101 h101 b101 X101 e101 g101 E101 A101 D101
  have n_b101 : Z.heap.size ≤ b101 := Nat.le_trans O0.1 (Nat.le_of_eq g101.symm)
  have z_b101 : h0.size ≤ b101 := Nat.le_trans (Nat.le_refl _) (Nat.le_of_eq g101.symm)
  have F101_value : Fld Z h101 b101 "java/lang/AbstractStringBuilder" "value" "[B" .null := D101 (Or.inl (tw hw 60 rfl)) (ty := (.array .byte)) (by decide)
  have F101_coder : Fld Z h101 b101 "java/lang/AbstractStringBuilder" "coder" "B" (.int (0 : Int32)) := D101 (Or.inl (tw hw 62 rfl)) (ty := .byte) (by decide)
  have F101_count : Fld Z h101 b101 "java/lang/AbstractStringBuilder" "count" "I" (.int (0 : Int32)) := D101 (Or.inl (tw hw 74 rfl)) (ty := .int) (by decide)
  refine Go.dup (pc' := 4) C X101 d9_3 rfl rfl ?_
  refine Go.aloadN (pc' := 5) C X101 d9_4 rfl rfl rfl ?_
  have c102 : AL Z h101 a ka .byte (by8 [y0, y1, y2, y3, y4, y5]) := (AL.ext E101 A0)
  refine Go.alen (z := (6 : Int32)) (pc' := 6) C X101 e101 c102 (by rw [by8_len]; rfl) d9_5 rfl ?_
  refine Go.iconst (z := (4 : Int32)) (pc' := 7) C X101 d9_6 rfl rfl ?_
  refine Go.iadd (pc' := 8) C X101 d9_7 rfl ?_
  rw [show ((6 : Int32) + (4 : Int32)) = (10 : Int32) from by decide]
  refine Go.iconst (z := (5 : Int32)) (pc' := 9) C X101 d9_8 rfl rfl ?_
  refine Go.idiv (pc' := 10) C X101 d9_9 (by decide) rfl ?_
  refine Go.bipush (z := (8 : Int32)) (pc' := 12) C X101 d9_10 rfl rfl ?_
  refine Go.imul (pc' := 13) C X101 d9_12 rfl ?_
  rw [show (((10 : Int32) / (5 : Int32)) * (8 : Int32)) = (16 : Nat).toInt32 from by decide]
  have O104 : Ext Z.heap h101 := (Ext.trans O0 E101)
  refine Go.callI (y := mN20) (a := b101) (pc' := 16) C X101 rfl (tw hw 46 rfl) (tw hw 47 rfl) (by decide) (rm_sbI l Z a0 hw b101 ((16 : Nat)) cP h101 O104 A101 F101_value F101_coder F101_count SC n_b101 hP (by decide)) (tw hw 48 rfl) (tw hw 45 rfl) e101 (argsL := [(.int (16 : Nat).toInt32)]) (rest := [(.ref b101)]) (W := 1) rfl rfl pd_5 rfl (Nat.le_of_eq rfl) rfl (by decide) (by decide) (by decide) (by decide) rfl d9_13 rfl ?_
  intro T103 v103 L103 X103 q103
  obtain ⟨w_103, kw_103, rfl, N103q, K103, B103_0, P103_0, P103_1, P103_2, P103_3, P103_4⟩ := q103
  have N103 := Fr.app N0 N103q
  have n_w_103 : Z.heap.size ≤ w_103 := Nat.le_trans O104.1 B103_0
  have z_w_103 : h0.size ≤ w_103 := Nat.le_trans (Nat.le_trans (Nat.le_refl _) E101.1) B103_0
  refine Go.astoreN (Ls' := #[.val (.ref a), .val (.ref b101), .unset, .unset, .unset, .unset, .unset, .unset]) (pc' := 17) C X103 d9_16 rfl rfl rfl ?_
  refine Go.iconst (z := (0 : Int32)) (pc' := 18) C X103 d9_17 rfl rfl ?_
  refine Go.istoreN (Ls' := #[.val (.ref a), .val (.ref b101), .val (.int (0 : Int32)), .unset, .unset, .unset, .unset, .unset]) (pc' := 19) C X103 d9_18 rfl rfl ?_
  refine Go.iconst (z := (0 : Int32)) (pc' := 20) C X103 d9_19 rfl rfl ?_
  refine Go.istoreN (Ls' := #[.val (.ref a), .val (.ref b101), .val (.int (0 : Int32)), .val (.int (0 : Int32)), .unset, .unset, .unset, .unset]) (pc' := 21) C X103 d9_20 rfl rfl ?_
  refine Go.aloadN (pc' := 22) C X103 d9_21 rfl rfl rfl ?_
  refine Go.astore (Ls' := #[.val (.ref a), .val (.ref b101), .val (.int (0 : Int32)), .val (.int (0 : Int32)), .val (.ref a), .unset, .unset, .unset]) (pc' := 24) C X103 d9_22 rfl rfl rfl ?_
  refine Go.aload (pc' := 26) C X103 d9_24 rfl rfl rfl ?_
  have ne105 : a ≠ b101 := Nat.ne_of_lt (Nat.lt_of_lt_of_le A0.lt (Nat.le_trans (Nat.le_refl _) (Nat.le_of_eq g101.symm)))
  have c106 : AL Z T103.heap a ka .byte (by8 [y0, y1, y2, y3, y4, y5]) := (AL.keep c102 K103 (ninS ne105 nin0))
  refine Go.alen (z := (6 : Int32)) (pc' := 27) C X103 rfl c106 (by rw [by8_len]; rfl) d9_26 rfl ?_
  refine Go.istore (Ls' := #[.val (.ref a), .val (.ref b101), .val (.int (0 : Int32)), .val (.int (0 : Int32)), .val (.ref a), .val (.int (6 : Int32)), .unset, .unset]) (pc' := 29) C X103 d9_27 rfl rfl ?_
  refine Go.iconst (z := (0 : Int32)) (pc' := 30) C X103 d9_29 rfl rfl ?_
  refine Go.istore (Ls' := #[.val (.ref a), .val (.ref b101), .val (.int (0 : Int32)), .val (.int (0 : Int32)), .val (.ref a), .val (.int (6 : Int32)), .val (.int (0 : Int32)), .unset]) (pc' := 32) C X103 d9_30 rfl rfl ?_
  obtain ⟨B0, hB0⟩ : ∃ z, z = (((0 : Int32) <<< ((8 : Int32) &&& 31)) ||| (y0.toInt8.toInt32 &&& (255 : Int32))) := ⟨_, rfl⟩
  have vB0 := bufv hB0
  have O108 : Ext Z.heap T103.heap := (Ext.keep O104 K103 (allS n_b101 all0))
  refine sg_in hw a ka b101 (0 : Int32) B0 (0 : Int32) (8 : Int32) (6 : Int32) (0 : Int32) Slot.unset y0 0 (by8 [y0, y1, y2, y3, y4, y5]) C (by decide) (by decide) (by decide) (by decide) (by decide) (by8_get rfl) One.u hB0 (by decide) (by decide) (by decide) X103 rfl O108 c106 N103 ?_
  obtain ⟨d0, hd0⟩ : ∃ z, z = (((B0.toUInt32 >>> ((3 : Int32) &&& 31).toUInt32).toInt32) &&& (31 : Int32)) := ⟨_, rfl⟩
  have ud0 := ixv (3 : Int32) 3 8 (by decide) (by decide) (by decide) (by decide) hd0
  have gd0 := c_rng ud0
  have lY0 : ((List.replicate (16 : Nat) 0) : List Int32).length = 16 := by simp
  have ct0 : Fld Z T103.heap b101 "java/lang/AbstractStringBuilder" "count" "I" (.int (0 : Nat).toInt32) := P103_2
  have ne109 : b101 ≠ w_103 := Nat.ne_of_lt (Nat.lt_of_lt_of_le A101.lt (Nat.le_trans (Nat.le_refl _) B103_0))
  have c110 : Exa Z T103.heap b101 "java/lang/StringBuilder" := (Exa.keep A101 K103)
  refine sg_ch hw a b101 w_103 kw_103 (List.replicate (16 : Nat) 0) (16 : Nat) (0 : Nat) (1 : Nat) cP ta tk tb B0 (8 : Int32) (3 : Int32) (6 : Int32) (0 : Int32) y0.toInt8.toInt32 d0 C (by decide) (by decide) (by decide) lY0 (by decide) rfl hP n_b101 n_w_103 ne109 htb (by decide) (by decide) hd0 gd0 (by decide) (by decide) X103 rfl O108 c110 P103_0 P103_1 ct0 P103_4 SC ST AT N103 ?_
  intro T111 L111 h111 Y1 X111 e111 K111 j111_0 j111_1 P111_0 P111_1 P111_2 P111_3 N111
  have O113 : Ext Z.heap h111 := (Ext.keep O108 K111 (allS n_b101 (allS n_w_103 all0)))
  refine sg_nx hw a b101 B0 (3 : Int32) (6 : Int32) (0 : Int32) (1 : Int32) y0.toInt8.toInt32 C (by decide) (by decide) (by decide) (by decide) (by decide) (by decide) X111 e111 O113  N111 ?_
  obtain ⟨B1, hB1⟩ : ∃ z, z = ((B0 <<< ((8 : Int32) &&& 31)) ||| (y1.toInt8.toInt32 &&& (255 : Int32))) := ⟨_, rfl⟩
  have vB1 := bufv hB1
  have ne114 : a ≠ w_103 := Nat.ne_of_lt (Nat.lt_of_lt_of_le A0.lt (Nat.le_trans (Nat.le_trans (Nat.le_refl _) E101.1) B103_0))
  have c115 : AL Z h111 a ka .byte (by8 [y0, y1, y2, y3, y4, y5]) := (AL.keep c106 K111 (ninS ne105 (ninS ne114 nin0)))
  refine sg_in hw a ka b101 B0 B1 (3 : Int32) (11 : Int32) (6 : Int32) (1 : Int32) (Slot.val (.int y0.toInt8.toInt32)) y1 1 (by8 [y0, y1, y2, y3, y4, y5]) C (by decide) (by decide) (by decide) (by decide) (by decide) (by8_get rfl) (One.val rfl) hB1 (by decide) (by decide) (by decide) X111 e111 O113 c115 N111 ?_
  obtain ⟨d1, hd1⟩ : ∃ z, z = (((B1.toUInt32 >>> ((6 : Int32) &&& 31).toUInt32).toInt32) &&& (31 : Int32)) := ⟨_, rfl⟩
  have ud1 := ixv (6 : Int32) 6 64 (by decide) (by decide) (by decide) (by decide) hd1
  have gd1 := c_rng ud1
  have c117 : Exa Z h111 b101 "java/lang/StringBuilder" := (Exa.keep c110 K111)
  refine sg_ch hw a b101 w_103 kw_103 Y1 (16 : Nat) (1 : Nat) (2 : Nat) cP ta tk tb B1 (11 : Int32) (6 : Int32) (6 : Int32) (1 : Int32) y1.toInt8.toInt32 d1 C (by decide) (by decide) (by decide) j111_1 (by decide) rfl hP n_b101 n_w_103 ne109 htb (by decide) (by decide) hd1 gd1 (by decide) (by decide) X111 e111 O113 c117 P111_0 P111_1 P111_2 P111_3 SC ST AT N111 ?_
  intro T118 L118 h118 Y2 X118 e118 K118 j118_0 j118_1 P118_0 P118_1 P118_2 P118_3 N118
  obtain ⟨d2, hd2⟩ : ∃ z, z = (((B1.toUInt32 >>> ((1 : Int32) &&& 31).toUInt32).toInt32) &&& (31 : Int32)) := ⟨_, rfl⟩
  have ud2 := ixv (1 : Int32) 1 2 (by decide) (by decide) (by decide) (by decide) hd2
  have gd2 := c_rng ud2
  have c119 : Exa Z h118 b101 "java/lang/StringBuilder" := (Exa.keep c117 K118)
  have O121 : Ext Z.heap h118 := (Ext.keep O113 K118 (allS n_b101 (allS n_w_103 all0)))
  refine sg_ch hw a b101 w_103 kw_103 Y2 (16 : Nat) (2 : Nat) (3 : Nat) cP ta tk tb B1 (6 : Int32) (1 : Int32) (6 : Int32) (1 : Int32) y1.toInt8.toInt32 d2 C (by decide) (by decide) (by decide) j118_1 (by decide) rfl hP n_b101 n_w_103 ne109 htb (by decide) (by decide) hd2 gd2 (by decide) (by decide) X118 e118 O121 c119 P118_0 P118_1 P118_2 P118_3 SC ST AT N118 ?_
  intro T120 L120 h120 Y3 X120 e120 K120 j120_0 j120_1 P120_0 P120_1 P120_2 P120_3 N120
  have O123 : Ext Z.heap h120 := (Ext.keep O121 K120 (allS n_b101 (allS n_w_103 all0)))
  refine sg_nx hw a b101 B1 (1 : Int32) (6 : Int32) (1 : Int32) (2 : Int32) y1.toInt8.toInt32 C (by decide) (by decide) (by decide) (by decide) (by decide) (by decide) X120 e120 O123  N120 ?_
  obtain ⟨B2, hB2⟩ : ∃ z, z = ((B1 <<< ((8 : Int32) &&& 31)) ||| (y2.toInt8.toInt32 &&& (255 : Int32))) := ⟨_, rfl⟩
  have vB2 := bufv hB2
  have c124 : AL Z h120 a ka .byte (by8 [y0, y1, y2, y3, y4, y5]) := (AL.keep (AL.keep c115 K118 (ninS ne105 (ninS ne114 nin0))) K120 (ninS ne105 (ninS ne114 nin0)))
  refine sg_in hw a ka b101 B1 B2 (1 : Int32) (9 : Int32) (6 : Int32) (2 : Int32) (Slot.val (.int y1.toInt8.toInt32)) y2 2 (by8 [y0, y1, y2, y3, y4, y5]) C (by decide) (by decide) (by decide) (by decide) (by decide) (by8_get rfl) (One.val rfl) hB2 (by decide) (by decide) (by decide) X120 e120 O123 c124 N120 ?_
  obtain ⟨d3, hd3⟩ : ∃ z, z = (((B2.toUInt32 >>> ((4 : Int32) &&& 31).toUInt32).toInt32) &&& (31 : Int32)) := ⟨_, rfl⟩
  have ud3 := ixv (4 : Int32) 4 16 (by decide) (by decide) (by decide) (by decide) hd3
  have gd3 := c_rng ud3
  have c126 : Exa Z h120 b101 "java/lang/StringBuilder" := (Exa.keep c119 K120)
  refine sg_ch hw a b101 w_103 kw_103 Y3 (16 : Nat) (3 : Nat) (4 : Nat) cP ta tk tb B2 (9 : Int32) (4 : Int32) (6 : Int32) (2 : Int32) y2.toInt8.toInt32 d3 C (by decide) (by decide) (by decide) j120_1 (by decide) rfl hP n_b101 n_w_103 ne109 htb (by decide) (by decide) hd3 gd3 (by decide) (by decide) X120 e120 O123 c126 P120_0 P120_1 P120_2 P120_3 SC ST AT N120 ?_
  intro T127 L127 h127 Y4 X127 e127 K127 j127_0 j127_1 P127_0 P127_1 P127_2 P127_3 N127
  have O129 : Ext Z.heap h127 := (Ext.keep O123 K127 (allS n_b101 (allS n_w_103 all0)))
  refine sg_nx hw a b101 B2 (4 : Int32) (6 : Int32) (2 : Int32) (3 : Int32) y2.toInt8.toInt32 C (by decide) (by decide) (by decide) (by decide) (by decide) (by decide) X127 e127 O129  N127 ?_
  obtain ⟨B3, hB3⟩ : ∃ z, z = ((B2 <<< ((8 : Int32) &&& 31)) ||| (y3.toInt8.toInt32 &&& (255 : Int32))) := ⟨_, rfl⟩
  have vB3 := bufv hB3
  have c130 : AL Z h127 a ka .byte (by8 [y0, y1, y2, y3, y4, y5]) := (AL.keep c124 K127 (ninS ne105 (ninS ne114 nin0)))
  refine sg_in hw a ka b101 B2 B3 (4 : Int32) (12 : Int32) (6 : Int32) (3 : Int32) (Slot.val (.int y2.toInt8.toInt32)) y3 3 (by8 [y0, y1, y2, y3, y4, y5]) C (by decide) (by decide) (by decide) (by decide) (by decide) (by8_get rfl) (One.val rfl) hB3 (by decide) (by decide) (by decide) X127 e127 O129 c130 N127 ?_
  obtain ⟨d4, hd4⟩ : ∃ z, z = (((B3.toUInt32 >>> ((7 : Int32) &&& 31).toUInt32).toInt32) &&& (31 : Int32)) := ⟨_, rfl⟩
  have ud4 := ixv (7 : Int32) 7 128 (by decide) (by decide) (by decide) (by decide) hd4
  have gd4 := c_rng ud4
  have c132 : Exa Z h127 b101 "java/lang/StringBuilder" := (Exa.keep c126 K127)
  refine sg_ch hw a b101 w_103 kw_103 Y4 (16 : Nat) (4 : Nat) (5 : Nat) cP ta tk tb B3 (12 : Int32) (7 : Int32) (6 : Int32) (3 : Int32) y3.toInt8.toInt32 d4 C (by decide) (by decide) (by decide) j127_1 (by decide) rfl hP n_b101 n_w_103 ne109 htb (by decide) (by decide) hd4 gd4 (by decide) (by decide) X127 e127 O129 c132 P127_0 P127_1 P127_2 P127_3 SC ST AT N127 ?_
  intro T133 L133 h133 Y5 X133 e133 K133 j133_0 j133_1 P133_0 P133_1 P133_2 P133_3 N133
  obtain ⟨d5, hd5⟩ : ∃ z, z = (((B3.toUInt32 >>> ((2 : Int32) &&& 31).toUInt32).toInt32) &&& (31 : Int32)) := ⟨_, rfl⟩
  have ud5 := ixv (2 : Int32) 2 4 (by decide) (by decide) (by decide) (by decide) hd5
  have gd5 := c_rng ud5
  have c134 : Exa Z h133 b101 "java/lang/StringBuilder" := (Exa.keep c132 K133)
  have O136 : Ext Z.heap h133 := (Ext.keep O129 K133 (allS n_b101 (allS n_w_103 all0)))
  refine sg_ch hw a b101 w_103 kw_103 Y5 (16 : Nat) (5 : Nat) (6 : Nat) cP ta tk tb B3 (7 : Int32) (2 : Int32) (6 : Int32) (3 : Int32) y3.toInt8.toInt32 d5 C (by decide) (by decide) (by decide) j133_1 (by decide) rfl hP n_b101 n_w_103 ne109 htb (by decide) (by decide) hd5 gd5 (by decide) (by decide) X133 e133 O136 c134 P133_0 P133_1 P133_2 P133_3 SC ST AT N133 ?_
  intro T135 L135 h135 Y6 X135 e135 K135 j135_0 j135_1 P135_0 P135_1 P135_2 P135_3 N135
  have O138 : Ext Z.heap h135 := (Ext.keep O136 K135 (allS n_b101 (allS n_w_103 all0)))
  refine sg_nx hw a b101 B3 (2 : Int32) (6 : Int32) (3 : Int32) (4 : Int32) y3.toInt8.toInt32 C (by decide) (by decide) (by decide) (by decide) (by decide) (by decide) X135 e135 O138  N135 ?_
  obtain ⟨B4, hB4⟩ : ∃ z, z = ((B3 <<< ((8 : Int32) &&& 31)) ||| (y4.toInt8.toInt32 &&& (255 : Int32))) := ⟨_, rfl⟩
  have vB4 := bufv hB4
  have c139 : AL Z h135 a ka .byte (by8 [y0, y1, y2, y3, y4, y5]) := (AL.keep (AL.keep c130 K133 (ninS ne105 (ninS ne114 nin0))) K135 (ninS ne105 (ninS ne114 nin0)))
  refine sg_in hw a ka b101 B3 B4 (2 : Int32) (10 : Int32) (6 : Int32) (4 : Int32) (Slot.val (.int y3.toInt8.toInt32)) y4 4 (by8 [y0, y1, y2, y3, y4, y5]) C (by decide) (by decide) (by decide) (by decide) (by decide) (by8_get rfl) (One.val rfl) hB4 (by decide) (by decide) (by decide) X135 e135 O138 c139 N135 ?_
  obtain ⟨d6, hd6⟩ : ∃ z, z = (((B4.toUInt32 >>> ((5 : Int32) &&& 31).toUInt32).toInt32) &&& (31 : Int32)) := ⟨_, rfl⟩
  have ud6 := ixv (5 : Int32) 5 32 (by decide) (by decide) (by decide) (by decide) hd6
  have gd6 := c_rng ud6
  have c141 : Exa Z h135 b101 "java/lang/StringBuilder" := (Exa.keep c134 K135)
  refine sg_ch hw a b101 w_103 kw_103 Y6 (16 : Nat) (6 : Nat) (7 : Nat) cP ta tk tb B4 (10 : Int32) (5 : Int32) (6 : Int32) (4 : Int32) y4.toInt8.toInt32 d6 C (by decide) (by decide) (by decide) j135_1 (by decide) rfl hP n_b101 n_w_103 ne109 htb (by decide) (by decide) hd6 gd6 (by decide) (by decide) X135 e135 O138 c141 P135_0 P135_1 P135_2 P135_3 SC ST AT N135 ?_
  intro T142 L142 h142 Y7 X142 e142 K142 j142_0 j142_1 P142_0 P142_1 P142_2 P142_3 N142
  obtain ⟨d7, hd7⟩ : ∃ z, z = (((B4.toUInt32 >>> ((0 : Int32) &&& 31).toUInt32).toInt32) &&& (31 : Int32)) := ⟨_, rfl⟩
  have ud7 := ixv0 hd7
  have gd7 := c_rng ud7
  have c143 : Exa Z h142 b101 "java/lang/StringBuilder" := (Exa.keep c141 K142)
  have O145 : Ext Z.heap h142 := (Ext.keep O138 K142 (allS n_b101 (allS n_w_103 all0)))
  refine sg_ch hw a b101 w_103 kw_103 Y7 (16 : Nat) (7 : Nat) (8 : Nat) cP ta tk tb B4 (5 : Int32) (0 : Int32) (6 : Int32) (4 : Int32) y4.toInt8.toInt32 d7 C (by decide) (by decide) (by decide) j142_1 (by decide) rfl hP n_b101 n_w_103 ne109 htb (by decide) (by decide) hd7 gd7 (by decide) (by decide) X142 e142 O145 c143 P142_0 P142_1 P142_2 P142_3 SC ST AT N142 ?_
  intro T144 L144 h144 Y8 X144 e144 K144 j144_0 j144_1 P144_0 P144_1 P144_2 P144_3 N144
  have O147 : Ext Z.heap h144 := (Ext.keep O145 K144 (allS n_b101 (allS n_w_103 all0)))
  refine sg_nx hw a b101 B4 (0 : Int32) (6 : Int32) (4 : Int32) (5 : Int32) y4.toInt8.toInt32 C (by decide) (by decide) (by decide) (by decide) (by decide) (by decide) X144 e144 O147  N144 ?_
  obtain ⟨B5, hB5⟩ : ∃ z, z = ((B4 <<< ((8 : Int32) &&& 31)) ||| (y5.toInt8.toInt32 &&& (255 : Int32))) := ⟨_, rfl⟩
  have vB5 := bufv hB5
  have c148 : AL Z h144 a ka .byte (by8 [y0, y1, y2, y3, y4, y5]) := (AL.keep (AL.keep c139 K142 (ninS ne105 (ninS ne114 nin0))) K144 (ninS ne105 (ninS ne114 nin0)))
  refine sg_in hw a ka b101 B4 B5 (0 : Int32) (8 : Int32) (6 : Int32) (5 : Int32) (Slot.val (.int y4.toInt8.toInt32)) y5 5 (by8 [y0, y1, y2, y3, y4, y5]) C (by decide) (by decide) (by decide) (by decide) (by decide) (by8_get rfl) (One.val rfl) hB5 (by decide) (by decide) (by decide) X144 e144 O147 c148 N144 ?_
  obtain ⟨d8, hd8⟩ : ∃ z, z = (((B5.toUInt32 >>> ((3 : Int32) &&& 31).toUInt32).toInt32) &&& (31 : Int32)) := ⟨_, rfl⟩
  have ud8 := ixv (3 : Int32) 3 8 (by decide) (by decide) (by decide) (by decide) hd8
  have gd8 := c_rng ud8
  have c150 : Exa Z h144 b101 "java/lang/StringBuilder" := (Exa.keep c143 K144)
  refine sg_ch hw a b101 w_103 kw_103 Y8 (16 : Nat) (8 : Nat) (9 : Nat) cP ta tk tb B5 (8 : Int32) (3 : Int32) (6 : Int32) (5 : Int32) y5.toInt8.toInt32 d8 C (by decide) (by decide) (by decide) j144_1 (by decide) rfl hP n_b101 n_w_103 ne109 htb (by decide) (by decide) hd8 gd8 (by decide) (by decide) X144 e144 O147 c150 P144_0 P144_1 P144_2 P144_3 SC ST AT N144 ?_
  intro T151 L151 h151 Y9 X151 e151 K151 j151_0 j151_1 P151_0 P151_1 P151_2 P151_3 N151
  have O153 : Ext Z.heap h151 := (Ext.keep O147 K151 (allS n_b101 (allS n_w_103 all0)))
  refine sg_nx hw a b101 B5 (3 : Int32) (6 : Int32) (5 : Int32) (6 : Int32) y5.toInt8.toInt32 C (by decide) (by decide) (by decide) (by decide) (by decide) (by decide) X151 e151 O153  N151 ?_
  refine Go.iload (pc' := 34) C X151 d9_32 rfl rfl ?_
  refine Go.iload (pc' := 36) C X151 d9_34 rfl rfl ?_
  refine Go.icmpYes (pc' := 93) C X151 d9_36 (flt (x := (6 : Int32)) (y := (6 : Int32)) (by decide)).2.1 (by decide) (by decide) ?_
  obtain ⟨d9, hd9⟩ : ∃ z, z = ((B5 <<< (((5 : Int32) - (3 : Int32)) &&& 31)) &&& (31 : Int32)) := ⟨_, rfl⟩
  have ud9 := ixl ((5 : Int32) - (3 : Int32)) 2 4 (by decide) (by decide) (by decide) hd9
  have gd9 := c_rng ud9
  have c155 : Exa Z h151 b101 "java/lang/StringBuilder" := (Exa.keep c150 K151)
  refine sg_tl hw a b101 w_103 kw_103 Y9 (16 : Nat) (9 : Nat) (10 : Nat) cP ta tk tb B5 (3 : Int32) (6 : Int32) (6 : Int32) y5.toInt8.toInt32 d9 C (by decide) (by decide) (by decide) j151_1 (by decide) rfl hP n_b101 n_w_103 ne109 htb (by decide) hd9 gd9 (by decide) (by decide) X151 e151 O153 c155 P151_0 P151_1 P151_2 P151_3 SC ST AT N151 ?_
  intro T156 L156 h156 Y10 X156 e156 K156 j156_0 j156_1 P156_0 P156_1 P156_2 P156_3 N156
  have c157 : Exa Z h156 b101 "java/lang/StringBuilder" := (Exa.keep c155 K156)
  have O159 : Ext Z.heap h156 := (Ext.keep O153 K156 (allS n_b101 (allS n_w_103 all0)))
  refine sg_pd hw a b101 w_103 kw_103 Y10 (16 : Nat) (10 : Nat) (11 : Nat) cP B5 (3 : Int32) (6 : Int32) (6 : Int32) y5.toInt8.toInt32 C (by decide) (by decide) (by decide) j156_1 (by decide) rfl hP n_b101 n_w_103 ne109 (by decide) (by decide) (by decide) X156 e156 O159 c157 P156_0 P156_1 P156_2 P156_3 SC N156 ?_
  intro T158 L158 h158 Y11 X158 e158 K158 j158_0 j158_1 P158_0 P158_1 P158_2 P158_3 N158
  have c160 : Exa Z h158 b101 "java/lang/StringBuilder" := (Exa.keep c157 K158)
  have O162 : Ext Z.heap h158 := (Ext.keep O159 K158 (allS n_b101 (allS n_w_103 all0)))
  refine sg_pd hw a b101 w_103 kw_103 Y11 (16 : Nat) (11 : Nat) (12 : Nat) cP B5 (3 : Int32) (6 : Int32) (6 : Int32) y5.toInt8.toInt32 C (by decide) (by decide) (by decide) j158_1 (by decide) rfl hP n_b101 n_w_103 ne109 (by decide) (by decide) (by decide) X158 e158 O162 c160 P158_0 P158_1 P158_2 P158_3 SC N158 ?_
  intro T161 L161 h161 Y12 X161 e161 K161 j161_0 j161_1 P161_0 P161_1 P161_2 P161_3 N161
  have c163 : Exa Z h161 b101 "java/lang/StringBuilder" := (Exa.keep c160 K161)
  have O165 : Ext Z.heap h161 := (Ext.keep O162 K161 (allS n_b101 (allS n_w_103 all0)))
  refine sg_pd hw a b101 w_103 kw_103 Y12 (16 : Nat) (12 : Nat) (13 : Nat) cP B5 (3 : Int32) (6 : Int32) (6 : Int32) y5.toInt8.toInt32 C (by decide) (by decide) (by decide) j161_1 (by decide) rfl hP n_b101 n_w_103 ne109 (by decide) (by decide) (by decide) X161 e161 O165 c163 P161_0 P161_1 P161_2 P161_3 SC N161 ?_
  intro T164 L164 h164 Y13 X164 e164 K164 j164_0 j164_1 P164_0 P164_1 P164_2 P164_3 N164
  have c166 : Exa Z h164 b101 "java/lang/StringBuilder" := (Exa.keep c163 K164)
  have O168 : Ext Z.heap h164 := (Ext.keep O165 K164 (allS n_b101 (allS n_w_103 all0)))
  refine sg_pd hw a b101 w_103 kw_103 Y13 (16 : Nat) (13 : Nat) (14 : Nat) cP B5 (3 : Int32) (6 : Int32) (6 : Int32) y5.toInt8.toInt32 C (by decide) (by decide) (by decide) j164_1 (by decide) rfl hP n_b101 n_w_103 ne109 (by decide) (by decide) (by decide) X164 e164 O168 c166 P164_0 P164_1 P164_2 P164_3 SC N164 ?_
  intro T167 L167 h167 Y14 X167 e167 K167 j167_0 j167_1 P167_0 P167_1 P167_2 P167_3 N167
  have c169 : Exa Z h167 b101 "java/lang/StringBuilder" := (Exa.keep c166 K167)
  have O171 : Ext Z.heap h167 := (Ext.keep O168 K167 (allS n_b101 (allS n_w_103 all0)))
  refine sg_pd hw a b101 w_103 kw_103 Y14 (16 : Nat) (14 : Nat) (15 : Nat) cP B5 (3 : Int32) (6 : Int32) (6 : Int32) y5.toInt8.toInt32 C (by decide) (by decide) (by decide) j167_1 (by decide) rfl hP n_b101 n_w_103 ne109 (by decide) (by decide) (by decide) X167 e167 O171 c169 P167_0 P167_1 P167_2 P167_3 SC N167 ?_
  intro T170 L170 h170 Y15 X170 e170 K170 j170_0 j170_1 P170_0 P170_1 P170_2 P170_3 N170
  have c172 : Exa Z h170 b101 "java/lang/StringBuilder" := (Exa.keep c169 K170)
  have O174 : Ext Z.heap h170 := (Ext.keep O171 K170 (allS n_b101 (allS n_w_103 all0)))
  refine sg_pd hw a b101 w_103 kw_103 Y15 (16 : Nat) (15 : Nat) (16 : Nat) cP B5 (3 : Int32) (6 : Int32) (6 : Int32) y5.toInt8.toInt32 C (by decide) (by decide) (by decide) j170_1 (by decide) rfl hP n_b101 n_w_103 ne109 (by decide) (by decide) (by decide) X170 e170 O174 c172 P170_0 P170_1 P170_2 P170_3 SC N170 ?_
  intro T173 L173 h173 Y16 X173 e173 K173 j173_0 j173_1 P173_0 P173_1 P173_2 P173_3 N173
  refine Go.aloadN (pc' := 115) C X173 d9_114 rfl rfl rfl ?_
  have c176 : Exa Z h173 b101 "java/lang/StringBuilder" := (Exa.keep c172 K173)
  have O177 : Ext Z.heap h173 := (Ext.keep O174 K173 (allS n_b101 (allS n_w_103 all0)))
  refine Go.callV (y := mN22) (z := mN22) (a := b101) (pc' := 118) C X173 (tw hw 63 rfl) (tw hw 64 rfl) (notFace_at C.2.1 (tw hw 66 rfl)) (tw hw 66 rfl) (tw hw 65 rfl) c176 (by decide) (rm_sbl l Z a0 hw b101 ((16 : Nat).toInt32) h173 O177 c176 P173_2) (tw hw 67 rfl) (tw hw 45 rfl) e173 (argsL := []) (rest := []) (W := 0) rfl rfl pd_6 rfl (Nat.le_of_eq rfl) rfl (by decide) (by decide) (by decide) (by decide) d9_115 rfl ?_
  intro T175 v175 L175 X175 q175
  obtain ⟨rfl, rfl, e175⟩ := q175
  have N175 := Fr.app N173 (Fr.nil _)
  rw [show (16 : Nat).toInt32 = (16 : Int32) from rfl]
  refine Go.bipush (z := (8 : Int32)) (pc' := 120) C X175 d9_118 rfl rfl ?_
  refine Go.irem (pc' := 121) C X175 d9_120 (by decide) rfl ?_
  rw [show ((16 : Int32) % (8 : Int32)) = (0 : Int32) from by decide]
  refine Go.ifYes (pc' := 134) C X175 d9_121 ((if0 _ _).trans (teq (x := (0 : Int32)) (y := (0 : Int32)) (by decide)).1) (by decide) (by decide) ?_
  have ctE : Fld Z h173 b101 "java/lang/AbstractStringBuilder" "count" "I" (.int Y16.length.toInt32) := by rw [j173_1]; exact P173_2
  refine Go.aloadN (pc' := 135) C X175 d9_134 rfl rfl rfl ?_
  have c180 : Exa Z h173 w_103 "[B" := (Exa.keep (Exa.keep (Exa.keep (Exa.keep (Exa.keep (Exa.keep (Exa.keep (Exa.keep (Exa.keep (Exa.keep (Exa.keep (Exa.keep (Exa.keep (Exa.keep (Exa.keep (Exa.keep P103_3 K111) K118) K120) K127) K133) K135) K142) K144) K151) K156) K158) K161) K164) K167) K170) K173)
  refine Go.callV (y := mN23) (z := mN23) (a := b101) (pc' := 138) C X175 (tw hw 75 rfl) (tw hw 76 rfl) (notFace_at C.2.1 (tw hw 78 rfl)) (tw hw 78 rfl) (tw hw 77 rfl) c176 (by decide) (rm_tos l Z a0 hw b101 w_103 kw_103 Y16 cP h173 O177 c176 P173_0 P173_1 ctE c180 P173_3 SC (by rw [j173_1]; decide) hP) (tw hw 79 rfl) (tw hw 45 rfl) e175 (argsL := []) (rest := []) (W := 0) rfl rfl pd_18 rfl (Nat.le_of_eq rfl) rfl (by decide) (by decide) (by decide) (by decide) d9_135 rfl ?_
  intro T179 v179 L179 X179 q179
  obtain ⟨s1_179, v_179, kv_179, rfl, N179q, K179, B179_0, B179_1, P179_0, P179_1, P179_2, P179_3⟩ := q179
  have N179 := Fr.app N175 N179q
  have n_s1_179 : Z.heap.size ≤ s1_179 := Nat.le_trans O177.1 B179_0
  have z_s1_179 : h0.size ≤ s1_179 := Nat.le_trans (Nat.le_trans (Nat.le_trans (Nat.le_trans (Nat.le_trans (Nat.le_trans (Nat.le_trans (Nat.le_trans (Nat.le_trans (Nat.le_trans (Nat.le_trans (Nat.le_trans (Nat.le_trans (Nat.le_trans (Nat.le_trans (Nat.le_trans (Nat.le_trans (Nat.le_trans (Nat.le_trans (Nat.le_refl _) E101.1) K103.1) K111.1) K118.1) K120.1) K127.1) K133.1) K135.1) K142.1) K144.1) K151.1) K156.1) K158.1) K161.1) K164.1) K167.1) K170.1) K173.1) B179_0
  have n_v_179 : Z.heap.size ≤ v_179 := Nat.le_trans O177.1 B179_1
  have z_v_179 : h0.size ≤ v_179 := Nat.le_trans (Nat.le_trans (Nat.le_trans (Nat.le_trans (Nat.le_trans (Nat.le_trans (Nat.le_trans (Nat.le_trans (Nat.le_trans (Nat.le_trans (Nat.le_trans (Nat.le_trans (Nat.le_trans (Nat.le_trans (Nat.le_trans (Nat.le_trans (Nat.le_trans (Nat.le_trans (Nat.le_trans (Nat.le_refl _) E101.1) K103.1) K111.1) K118.1) K120.1) K127.1) K133.1) K135.1) K142.1) K144.1) K151.1) K156.1) K158.1) K161.1) K164.1) K167.1) K170.1) K173.1) B179_1
  have K181 : Keep h0 T179.heap [] := ((((((((((((((((((((Keep.refl h0 []).ext E101).trans K103 (allS (Or.inr z_b101) all0)).trans K111 (allS (Or.inr z_b101) (allS (Or.inr z_w_103) all0))).trans K118 (allS (Or.inr z_b101) (allS (Or.inr z_w_103) all0))).trans K120 (allS (Or.inr z_b101) (allS (Or.inr z_w_103) all0))).trans K127 (allS (Or.inr z_b101) (allS (Or.inr z_w_103) all0))).trans K133 (allS (Or.inr z_b101) (allS (Or.inr z_w_103) all0))).trans K135 (allS (Or.inr z_b101) (allS (Or.inr z_w_103) all0))).trans K142 (allS (Or.inr z_b101) (allS (Or.inr z_w_103) all0))).trans K144 (allS (Or.inr z_b101) (allS (Or.inr z_w_103) all0))).trans K151 (allS (Or.inr z_b101) (allS (Or.inr z_w_103) all0))).trans K156 (allS (Or.inr z_b101) (allS (Or.inr z_w_103) all0))).trans K158 (allS (Or.inr z_b101) (allS (Or.inr z_w_103) all0))).trans K161 (allS (Or.inr z_b101) (allS (Or.inr z_w_103) all0))).trans K164 (allS (Or.inr z_b101) (allS (Or.inr z_w_103) all0))).trans K167 (allS (Or.inr z_b101) (allS (Or.inr z_w_103) all0))).trans K170 (allS (Or.inr z_b101) (allS (Or.inr z_w_103) all0))).trans K173 (allS (Or.inr z_b101) (allS (Or.inr z_w_103) all0))).trans K179 all0)
  exact Go.retA C X179 rfl d9_138 rfl rfl rfl ⟨s1_179, v_179, kv_179, d0, d1, d2, d3, d4, d5, d6, d7, d8, d9, rfl, N179, K181, z_s1_179, z_v_179, P179_0, P179_1, P179_2, (by have q := P179_3; rw [j173_0, j170_0, j167_0, j164_0, j161_0, j158_0, j156_0, j151_0, j144_0, j142_0, j135_0, j133_0, j127_0, j120_0, j118_0, j111_0] at q; exact q), (qv ud0 vB0 p0z), (qv ud1 vB1 (bufw vB0)), (qv ud2 vB1 (bufw vB0)), (qv ud3 vB2 (bufw vB1)), (qv ud4 vB3 (bufw vB2)), (qv ud5 vB3 (bufw vB2)), (qv ud6 vB4 (bufw vB3)), (qv ud7 vB4 (bufw vB3)), (qv ud8 vB5 (bufw vB4)), (ql ud9 vB5)⟩ (by decide) (by decide)
def Q_b32_7 (Z : State) (a : Addr) (ka : ClassId) (cP : Int32) (ta : Addr) (tk : ClassId) (tb : List Value) (y0 : Int32) (y1 : Int32) (y2 : Int32) (y3 : Int32) (y4 : Int32) (y5 : Int32) (y6 : Int32) (h0 : Heap) (rv : Option Value) (h : Heap) (L : List Loc) : Prop := ∃ s1 : Addr, ∃ v : Addr, ∃ kv : ClassId, ∃ c0 : Int32, ∃ c1 : Int32, ∃ c2 : Int32, ∃ c3 : Int32, ∃ c4 : Int32, ∃ c5 : Int32, ∃ c6 : Int32, ∃ c7 : Int32, ∃ c8 : Int32, ∃ c9 : Int32, ∃ c10 : Int32, ∃ c11 : Int32, rv = some (.ref s1) ∧ Fr Z.heap.size L ∧ Keep h0 h [] ∧ h0.size ≤ s1 ∧ h0.size ≤ v ∧ Exa Z h s1 "java/lang/String" ∧ Fld Z h s1 "java/lang/String" "value" "[B" (.ref v) ∧ Fld Z h s1 "java/lang/String" "coder" "B" (.int (0 : Int32)) ∧ AL Z h v kv .byte (by8 [(alf c0), (alf c1), (alf c2), (alf c3), (alf c4), (alf c5), (alf c6), (alf c7), (alf c8), (alf c9), (alf c10), (alf c11), 61, 61, 61, 61]) ∧ (c0.toInt = ((0) * 256 + y0.toInt % 256) / 8 % 32) ∧ (c1.toInt = ((y0.toInt % 16) * 256 + y1.toInt % 256) / 64 % 32) ∧ (c2.toInt = ((y0.toInt % 16) * 256 + y1.toInt % 256) / 2 % 32) ∧ (c3.toInt = ((y1.toInt % 16) * 256 + y2.toInt % 256) / 16 % 32) ∧ (c4.toInt = ((y2.toInt % 16) * 256 + y3.toInt % 256) / 128 % 32) ∧ (c5.toInt = ((y2.toInt % 16) * 256 + y3.toInt % 256) / 4 % 32) ∧ (c6.toInt = ((y3.toInt % 16) * 256 + y4.toInt % 256) / 32 % 32) ∧ (c7.toInt = ((y3.toInt % 16) * 256 + y4.toInt % 256) / 1 % 32) ∧ (c8.toInt = ((y4.toInt % 16) * 256 + y5.toInt % 256) / 8 % 32) ∧ (c9.toInt = ((y5.toInt % 16) * 256 + y6.toInt % 256) / 64 % 32) ∧ (c10.toInt = ((y5.toInt % 16) * 256 + y6.toInt % 256) / 2 % 32) ∧ (c11.toInt = (y6.toInt % 256) * 16 % 32)
theorem rm_b32_7 (l : Launch) (Z : State) (a0 : Array Value) (hw : ∀ d ∈ tables_1, d.before a0 Z = true) (a : Addr) (ka : ClassId) (cP : Int32) (ta : Addr) (tk : ClassId) (tb : List Value) (y0 : Int32) (y1 : Int32) (y2 : Int32) (y3 : Int32) (y4 : Int32) (y5 : Int32) (y6 : Int32) (h0 : Heap) (O0 : Ext Z.heap h0) (A0 : AL Z h0 a ka .byte (by8 [y0, y1, y2, y3, y4, y5, y6])) (SC : Sta Z Z.heap "java/lang/String" "COMPACT_STRINGS" "Z" (.int cP)) (ST : Sta Z Z.heap "com/example/barrault/barrault/io/WarcDigest" "BASE32" "[C" (.ref ta)) (AT : AL Z Z.heap ta tk .char tb) (hP : ¬ cP = (0 : Int32)) (htb : ∀ c : Int32, 0 ≤ c.toInt → c.toInt < 32 → tb[c.toNatClampNeg]? = some (.int (alf c))) :
    Met1 l Z mN0 prog_23_method_5_code 8 (some (.object "java/lang/String")) ({ frames := 5, cells := 4, slots := 40, locals := 71 } : Room) #[(.ref a)] h0 (Q_b32_7 Z a ka cP ta tk tb y0 y1 y2 y3 y4 y5 y6 h0) := by
  refine Met1.of_body (Ls := #[.val (.ref a), .unset, .unset, .unset, .unset, .unset, .unset, .unset]) pf_9 (fun m => by first | (simp [entryFrame, mkF, argsToLocals, Value.category]; done) | rfl) ?_
  intro p e s m below meth c T0 C X0 e0
  have N0 : Fr Z.heap.size [] := Fr.nil _
  refine Go.newO (pc' := 3) C X0 (tw hw 43 rfl) (tw hw 44 rfl) (tw hw 45 rfl) e0 (by decide) (by decide) d9_0 rfl ?_
  intro T101 h101 b101 X101 e101 g101 E101 A101 D101
  have n_b101 : Z.heap.size ≤ b101 := Nat.le_trans O0.1 (Nat.le_of_eq g101.symm)
  have z_b101 : h0.size ≤ b101 := Nat.le_trans (Nat.le_refl _) (Nat.le_of_eq g101.symm)
  have F101_value : Fld Z h101 b101 "java/lang/AbstractStringBuilder" "value" "[B" .null := D101 (Or.inl (tw hw 60 rfl)) (ty := (.array .byte)) (by decide)
  have F101_coder : Fld Z h101 b101 "java/lang/AbstractStringBuilder" "coder" "B" (.int (0 : Int32)) := D101 (Or.inl (tw hw 62 rfl)) (ty := .byte) (by decide)
  have F101_count : Fld Z h101 b101 "java/lang/AbstractStringBuilder" "count" "I" (.int (0 : Int32)) := D101 (Or.inl (tw hw 74 rfl)) (ty := .int) (by decide)
  refine Go.dup (pc' := 4) C X101 d9_3 rfl rfl ?_
  refine Go.aloadN (pc' := 5) C X101 d9_4 rfl rfl rfl ?_
  have c102 : AL Z h101 a ka .byte (by8 [y0, y1, y2, y3, y4, y5, y6]) := (AL.ext E101 A0)
  refine Go.alen (z := (7 : Int32)) (pc' := 6) C X101 e101 c102 (by rw [by8_len]; rfl) d9_5 rfl ?_
  refine Go.iconst (z := (4 : Int32)) (pc' := 7) C X101 d9_6 rfl rfl ?_
  refine Go.iadd (pc' := 8) C X101 d9_7 rfl ?_
  rw [show ((7 : Int32) + (4 : Int32)) = (11 : Int32) from by decide]
  refine Go.iconst (z := (5 : Int32)) (pc' := 9) C X101 d9_8 rfl rfl ?_
  refine Go.idiv (pc' := 10) C X101 d9_9 (by decide) rfl ?_
  refine Go.bipush (z := (8 : Int32)) (pc' := 12) C X101 d9_10 rfl rfl ?_
  refine Go.imul (pc' := 13) C X101 d9_12 rfl ?_
  rw [show (((11 : Int32) / (5 : Int32)) * (8 : Int32)) = (16 : Nat).toInt32 from by decide]
  have O104 : Ext Z.heap h101 := (Ext.trans O0 E101)
  refine Go.callI (y := mN20) (a := b101) (pc' := 16) C X101 rfl (tw hw 46 rfl) (tw hw 47 rfl) (by decide) (rm_sbI l Z a0 hw b101 ((16 : Nat)) cP h101 O104 A101 F101_value F101_coder F101_count SC n_b101 hP (by decide)) (tw hw 48 rfl) (tw hw 45 rfl) e101 (argsL := [(.int (16 : Nat).toInt32)]) (rest := [(.ref b101)]) (W := 1) rfl rfl pd_5 rfl (Nat.le_of_eq rfl) rfl (by decide) (by decide) (by decide) (by decide) rfl d9_13 rfl ?_
  intro T103 v103 L103 X103 q103
  obtain ⟨w_103, kw_103, rfl, N103q, K103, B103_0, P103_0, P103_1, P103_2, P103_3, P103_4⟩ := q103
  have N103 := Fr.app N0 N103q
  have n_w_103 : Z.heap.size ≤ w_103 := Nat.le_trans O104.1 B103_0
  have z_w_103 : h0.size ≤ w_103 := Nat.le_trans (Nat.le_trans (Nat.le_refl _) E101.1) B103_0
  refine Go.astoreN (Ls' := #[.val (.ref a), .val (.ref b101), .unset, .unset, .unset, .unset, .unset, .unset]) (pc' := 17) C X103 d9_16 rfl rfl rfl ?_
  refine Go.iconst (z := (0 : Int32)) (pc' := 18) C X103 d9_17 rfl rfl ?_
  refine Go.istoreN (Ls' := #[.val (.ref a), .val (.ref b101), .val (.int (0 : Int32)), .unset, .unset, .unset, .unset, .unset]) (pc' := 19) C X103 d9_18 rfl rfl ?_
  refine Go.iconst (z := (0 : Int32)) (pc' := 20) C X103 d9_19 rfl rfl ?_
  refine Go.istoreN (Ls' := #[.val (.ref a), .val (.ref b101), .val (.int (0 : Int32)), .val (.int (0 : Int32)), .unset, .unset, .unset, .unset]) (pc' := 21) C X103 d9_20 rfl rfl ?_
  refine Go.aloadN (pc' := 22) C X103 d9_21 rfl rfl rfl ?_
  refine Go.astore (Ls' := #[.val (.ref a), .val (.ref b101), .val (.int (0 : Int32)), .val (.int (0 : Int32)), .val (.ref a), .unset, .unset, .unset]) (pc' := 24) C X103 d9_22 rfl rfl rfl ?_
  refine Go.aload (pc' := 26) C X103 d9_24 rfl rfl rfl ?_
  have ne105 : a ≠ b101 := Nat.ne_of_lt (Nat.lt_of_lt_of_le A0.lt (Nat.le_trans (Nat.le_refl _) (Nat.le_of_eq g101.symm)))
  have c106 : AL Z T103.heap a ka .byte (by8 [y0, y1, y2, y3, y4, y5, y6]) := (AL.keep c102 K103 (ninS ne105 nin0))
  refine Go.alen (z := (7 : Int32)) (pc' := 27) C X103 rfl c106 (by rw [by8_len]; rfl) d9_26 rfl ?_
  refine Go.istore (Ls' := #[.val (.ref a), .val (.ref b101), .val (.int (0 : Int32)), .val (.int (0 : Int32)), .val (.ref a), .val (.int (7 : Int32)), .unset, .unset]) (pc' := 29) C X103 d9_27 rfl rfl ?_
  refine Go.iconst (z := (0 : Int32)) (pc' := 30) C X103 d9_29 rfl rfl ?_
  refine Go.istore (Ls' := #[.val (.ref a), .val (.ref b101), .val (.int (0 : Int32)), .val (.int (0 : Int32)), .val (.ref a), .val (.int (7 : Int32)), .val (.int (0 : Int32)), .unset]) (pc' := 32) C X103 d9_30 rfl rfl ?_
  obtain ⟨B0, hB0⟩ : ∃ z, z = (((0 : Int32) <<< ((8 : Int32) &&& 31)) ||| (y0.toInt8.toInt32 &&& (255 : Int32))) := ⟨_, rfl⟩
  have vB0 := bufv hB0
  have O108 : Ext Z.heap T103.heap := (Ext.keep O104 K103 (allS n_b101 all0))
  refine sg_in hw a ka b101 (0 : Int32) B0 (0 : Int32) (8 : Int32) (7 : Int32) (0 : Int32) Slot.unset y0 0 (by8 [y0, y1, y2, y3, y4, y5, y6]) C (by decide) (by decide) (by decide) (by decide) (by decide) (by8_get rfl) One.u hB0 (by decide) (by decide) (by decide) X103 rfl O108 c106 N103 ?_
  obtain ⟨d0, hd0⟩ : ∃ z, z = (((B0.toUInt32 >>> ((3 : Int32) &&& 31).toUInt32).toInt32) &&& (31 : Int32)) := ⟨_, rfl⟩
  have ud0 := ixv (3 : Int32) 3 8 (by decide) (by decide) (by decide) (by decide) hd0
  have gd0 := c_rng ud0
  have lY0 : ((List.replicate (16 : Nat) 0) : List Int32).length = 16 := by simp
  have ct0 : Fld Z T103.heap b101 "java/lang/AbstractStringBuilder" "count" "I" (.int (0 : Nat).toInt32) := P103_2
  have ne109 : b101 ≠ w_103 := Nat.ne_of_lt (Nat.lt_of_lt_of_le A101.lt (Nat.le_trans (Nat.le_refl _) B103_0))
  have c110 : Exa Z T103.heap b101 "java/lang/StringBuilder" := (Exa.keep A101 K103)
  refine sg_ch hw a b101 w_103 kw_103 (List.replicate (16 : Nat) 0) (16 : Nat) (0 : Nat) (1 : Nat) cP ta tk tb B0 (8 : Int32) (3 : Int32) (7 : Int32) (0 : Int32) y0.toInt8.toInt32 d0 C (by decide) (by decide) (by decide) lY0 (by decide) rfl hP n_b101 n_w_103 ne109 htb (by decide) (by decide) hd0 gd0 (by decide) (by decide) X103 rfl O108 c110 P103_0 P103_1 ct0 P103_4 SC ST AT N103 ?_
  intro T111 L111 h111 Y1 X111 e111 K111 j111_0 j111_1 P111_0 P111_1 P111_2 P111_3 N111
  have O113 : Ext Z.heap h111 := (Ext.keep O108 K111 (allS n_b101 (allS n_w_103 all0)))
  refine sg_nx hw a b101 B0 (3 : Int32) (7 : Int32) (0 : Int32) (1 : Int32) y0.toInt8.toInt32 C (by decide) (by decide) (by decide) (by decide) (by decide) (by decide) X111 e111 O113  N111 ?_
  obtain ⟨B1, hB1⟩ : ∃ z, z = ((B0 <<< ((8 : Int32) &&& 31)) ||| (y1.toInt8.toInt32 &&& (255 : Int32))) := ⟨_, rfl⟩
  have vB1 := bufv hB1
  have ne114 : a ≠ w_103 := Nat.ne_of_lt (Nat.lt_of_lt_of_le A0.lt (Nat.le_trans (Nat.le_trans (Nat.le_refl _) E101.1) B103_0))
  have c115 : AL Z h111 a ka .byte (by8 [y0, y1, y2, y3, y4, y5, y6]) := (AL.keep c106 K111 (ninS ne105 (ninS ne114 nin0)))
  refine sg_in hw a ka b101 B0 B1 (3 : Int32) (11 : Int32) (7 : Int32) (1 : Int32) (Slot.val (.int y0.toInt8.toInt32)) y1 1 (by8 [y0, y1, y2, y3, y4, y5, y6]) C (by decide) (by decide) (by decide) (by decide) (by decide) (by8_get rfl) (One.val rfl) hB1 (by decide) (by decide) (by decide) X111 e111 O113 c115 N111 ?_
  obtain ⟨d1, hd1⟩ : ∃ z, z = (((B1.toUInt32 >>> ((6 : Int32) &&& 31).toUInt32).toInt32) &&& (31 : Int32)) := ⟨_, rfl⟩
  have ud1 := ixv (6 : Int32) 6 64 (by decide) (by decide) (by decide) (by decide) hd1
  have gd1 := c_rng ud1
  have c117 : Exa Z h111 b101 "java/lang/StringBuilder" := (Exa.keep c110 K111)
  refine sg_ch hw a b101 w_103 kw_103 Y1 (16 : Nat) (1 : Nat) (2 : Nat) cP ta tk tb B1 (11 : Int32) (6 : Int32) (7 : Int32) (1 : Int32) y1.toInt8.toInt32 d1 C (by decide) (by decide) (by decide) j111_1 (by decide) rfl hP n_b101 n_w_103 ne109 htb (by decide) (by decide) hd1 gd1 (by decide) (by decide) X111 e111 O113 c117 P111_0 P111_1 P111_2 P111_3 SC ST AT N111 ?_
  intro T118 L118 h118 Y2 X118 e118 K118 j118_0 j118_1 P118_0 P118_1 P118_2 P118_3 N118
  obtain ⟨d2, hd2⟩ : ∃ z, z = (((B1.toUInt32 >>> ((1 : Int32) &&& 31).toUInt32).toInt32) &&& (31 : Int32)) := ⟨_, rfl⟩
  have ud2 := ixv (1 : Int32) 1 2 (by decide) (by decide) (by decide) (by decide) hd2
  have gd2 := c_rng ud2
  have c119 : Exa Z h118 b101 "java/lang/StringBuilder" := (Exa.keep c117 K118)
  have O121 : Ext Z.heap h118 := (Ext.keep O113 K118 (allS n_b101 (allS n_w_103 all0)))
  refine sg_ch hw a b101 w_103 kw_103 Y2 (16 : Nat) (2 : Nat) (3 : Nat) cP ta tk tb B1 (6 : Int32) (1 : Int32) (7 : Int32) (1 : Int32) y1.toInt8.toInt32 d2 C (by decide) (by decide) (by decide) j118_1 (by decide) rfl hP n_b101 n_w_103 ne109 htb (by decide) (by decide) hd2 gd2 (by decide) (by decide) X118 e118 O121 c119 P118_0 P118_1 P118_2 P118_3 SC ST AT N118 ?_
  intro T120 L120 h120 Y3 X120 e120 K120 j120_0 j120_1 P120_0 P120_1 P120_2 P120_3 N120
  have O123 : Ext Z.heap h120 := (Ext.keep O121 K120 (allS n_b101 (allS n_w_103 all0)))
  refine sg_nx hw a b101 B1 (1 : Int32) (7 : Int32) (1 : Int32) (2 : Int32) y1.toInt8.toInt32 C (by decide) (by decide) (by decide) (by decide) (by decide) (by decide) X120 e120 O123  N120 ?_
  obtain ⟨B2, hB2⟩ : ∃ z, z = ((B1 <<< ((8 : Int32) &&& 31)) ||| (y2.toInt8.toInt32 &&& (255 : Int32))) := ⟨_, rfl⟩
  have vB2 := bufv hB2
  have c124 : AL Z h120 a ka .byte (by8 [y0, y1, y2, y3, y4, y5, y6]) := (AL.keep (AL.keep c115 K118 (ninS ne105 (ninS ne114 nin0))) K120 (ninS ne105 (ninS ne114 nin0)))
  refine sg_in hw a ka b101 B1 B2 (1 : Int32) (9 : Int32) (7 : Int32) (2 : Int32) (Slot.val (.int y1.toInt8.toInt32)) y2 2 (by8 [y0, y1, y2, y3, y4, y5, y6]) C (by decide) (by decide) (by decide) (by decide) (by decide) (by8_get rfl) (One.val rfl) hB2 (by decide) (by decide) (by decide) X120 e120 O123 c124 N120 ?_
  obtain ⟨d3, hd3⟩ : ∃ z, z = (((B2.toUInt32 >>> ((4 : Int32) &&& 31).toUInt32).toInt32) &&& (31 : Int32)) := ⟨_, rfl⟩
  have ud3 := ixv (4 : Int32) 4 16 (by decide) (by decide) (by decide) (by decide) hd3
  have gd3 := c_rng ud3
  have c126 : Exa Z h120 b101 "java/lang/StringBuilder" := (Exa.keep c119 K120)
  refine sg_ch hw a b101 w_103 kw_103 Y3 (16 : Nat) (3 : Nat) (4 : Nat) cP ta tk tb B2 (9 : Int32) (4 : Int32) (7 : Int32) (2 : Int32) y2.toInt8.toInt32 d3 C (by decide) (by decide) (by decide) j120_1 (by decide) rfl hP n_b101 n_w_103 ne109 htb (by decide) (by decide) hd3 gd3 (by decide) (by decide) X120 e120 O123 c126 P120_0 P120_1 P120_2 P120_3 SC ST AT N120 ?_
  intro T127 L127 h127 Y4 X127 e127 K127 j127_0 j127_1 P127_0 P127_1 P127_2 P127_3 N127
  have O129 : Ext Z.heap h127 := (Ext.keep O123 K127 (allS n_b101 (allS n_w_103 all0)))
  refine sg_nx hw a b101 B2 (4 : Int32) (7 : Int32) (2 : Int32) (3 : Int32) y2.toInt8.toInt32 C (by decide) (by decide) (by decide) (by decide) (by decide) (by decide) X127 e127 O129  N127 ?_
  obtain ⟨B3, hB3⟩ : ∃ z, z = ((B2 <<< ((8 : Int32) &&& 31)) ||| (y3.toInt8.toInt32 &&& (255 : Int32))) := ⟨_, rfl⟩
  have vB3 := bufv hB3
  have c130 : AL Z h127 a ka .byte (by8 [y0, y1, y2, y3, y4, y5, y6]) := (AL.keep c124 K127 (ninS ne105 (ninS ne114 nin0)))
  refine sg_in hw a ka b101 B2 B3 (4 : Int32) (12 : Int32) (7 : Int32) (3 : Int32) (Slot.val (.int y2.toInt8.toInt32)) y3 3 (by8 [y0, y1, y2, y3, y4, y5, y6]) C (by decide) (by decide) (by decide) (by decide) (by decide) (by8_get rfl) (One.val rfl) hB3 (by decide) (by decide) (by decide) X127 e127 O129 c130 N127 ?_
  obtain ⟨d4, hd4⟩ : ∃ z, z = (((B3.toUInt32 >>> ((7 : Int32) &&& 31).toUInt32).toInt32) &&& (31 : Int32)) := ⟨_, rfl⟩
  have ud4 := ixv (7 : Int32) 7 128 (by decide) (by decide) (by decide) (by decide) hd4
  have gd4 := c_rng ud4
  have c132 : Exa Z h127 b101 "java/lang/StringBuilder" := (Exa.keep c126 K127)
  refine sg_ch hw a b101 w_103 kw_103 Y4 (16 : Nat) (4 : Nat) (5 : Nat) cP ta tk tb B3 (12 : Int32) (7 : Int32) (7 : Int32) (3 : Int32) y3.toInt8.toInt32 d4 C (by decide) (by decide) (by decide) j127_1 (by decide) rfl hP n_b101 n_w_103 ne109 htb (by decide) (by decide) hd4 gd4 (by decide) (by decide) X127 e127 O129 c132 P127_0 P127_1 P127_2 P127_3 SC ST AT N127 ?_
  intro T133 L133 h133 Y5 X133 e133 K133 j133_0 j133_1 P133_0 P133_1 P133_2 P133_3 N133
  obtain ⟨d5, hd5⟩ : ∃ z, z = (((B3.toUInt32 >>> ((2 : Int32) &&& 31).toUInt32).toInt32) &&& (31 : Int32)) := ⟨_, rfl⟩
  have ud5 := ixv (2 : Int32) 2 4 (by decide) (by decide) (by decide) (by decide) hd5
  have gd5 := c_rng ud5
  have c134 : Exa Z h133 b101 "java/lang/StringBuilder" := (Exa.keep c132 K133)
  have O136 : Ext Z.heap h133 := (Ext.keep O129 K133 (allS n_b101 (allS n_w_103 all0)))
  refine sg_ch hw a b101 w_103 kw_103 Y5 (16 : Nat) (5 : Nat) (6 : Nat) cP ta tk tb B3 (7 : Int32) (2 : Int32) (7 : Int32) (3 : Int32) y3.toInt8.toInt32 d5 C (by decide) (by decide) (by decide) j133_1 (by decide) rfl hP n_b101 n_w_103 ne109 htb (by decide) (by decide) hd5 gd5 (by decide) (by decide) X133 e133 O136 c134 P133_0 P133_1 P133_2 P133_3 SC ST AT N133 ?_
  intro T135 L135 h135 Y6 X135 e135 K135 j135_0 j135_1 P135_0 P135_1 P135_2 P135_3 N135
  have O138 : Ext Z.heap h135 := (Ext.keep O136 K135 (allS n_b101 (allS n_w_103 all0)))
  refine sg_nx hw a b101 B3 (2 : Int32) (7 : Int32) (3 : Int32) (4 : Int32) y3.toInt8.toInt32 C (by decide) (by decide) (by decide) (by decide) (by decide) (by decide) X135 e135 O138  N135 ?_
  obtain ⟨B4, hB4⟩ : ∃ z, z = ((B3 <<< ((8 : Int32) &&& 31)) ||| (y4.toInt8.toInt32 &&& (255 : Int32))) := ⟨_, rfl⟩
  have vB4 := bufv hB4
  have c139 : AL Z h135 a ka .byte (by8 [y0, y1, y2, y3, y4, y5, y6]) := (AL.keep (AL.keep c130 K133 (ninS ne105 (ninS ne114 nin0))) K135 (ninS ne105 (ninS ne114 nin0)))
  refine sg_in hw a ka b101 B3 B4 (2 : Int32) (10 : Int32) (7 : Int32) (4 : Int32) (Slot.val (.int y3.toInt8.toInt32)) y4 4 (by8 [y0, y1, y2, y3, y4, y5, y6]) C (by decide) (by decide) (by decide) (by decide) (by decide) (by8_get rfl) (One.val rfl) hB4 (by decide) (by decide) (by decide) X135 e135 O138 c139 N135 ?_
  obtain ⟨d6, hd6⟩ : ∃ z, z = (((B4.toUInt32 >>> ((5 : Int32) &&& 31).toUInt32).toInt32) &&& (31 : Int32)) := ⟨_, rfl⟩
  have ud6 := ixv (5 : Int32) 5 32 (by decide) (by decide) (by decide) (by decide) hd6
  have gd6 := c_rng ud6
  have c141 : Exa Z h135 b101 "java/lang/StringBuilder" := (Exa.keep c134 K135)
  refine sg_ch hw a b101 w_103 kw_103 Y6 (16 : Nat) (6 : Nat) (7 : Nat) cP ta tk tb B4 (10 : Int32) (5 : Int32) (7 : Int32) (4 : Int32) y4.toInt8.toInt32 d6 C (by decide) (by decide) (by decide) j135_1 (by decide) rfl hP n_b101 n_w_103 ne109 htb (by decide) (by decide) hd6 gd6 (by decide) (by decide) X135 e135 O138 c141 P135_0 P135_1 P135_2 P135_3 SC ST AT N135 ?_
  intro T142 L142 h142 Y7 X142 e142 K142 j142_0 j142_1 P142_0 P142_1 P142_2 P142_3 N142
  obtain ⟨d7, hd7⟩ : ∃ z, z = (((B4.toUInt32 >>> ((0 : Int32) &&& 31).toUInt32).toInt32) &&& (31 : Int32)) := ⟨_, rfl⟩
  have ud7 := ixv0 hd7
  have gd7 := c_rng ud7
  have c143 : Exa Z h142 b101 "java/lang/StringBuilder" := (Exa.keep c141 K142)
  have O145 : Ext Z.heap h142 := (Ext.keep O138 K142 (allS n_b101 (allS n_w_103 all0)))
  refine sg_ch hw a b101 w_103 kw_103 Y7 (16 : Nat) (7 : Nat) (8 : Nat) cP ta tk tb B4 (5 : Int32) (0 : Int32) (7 : Int32) (4 : Int32) y4.toInt8.toInt32 d7 C (by decide) (by decide) (by decide) j142_1 (by decide) rfl hP n_b101 n_w_103 ne109 htb (by decide) (by decide) hd7 gd7 (by decide) (by decide) X142 e142 O145 c143 P142_0 P142_1 P142_2 P142_3 SC ST AT N142 ?_
  intro T144 L144 h144 Y8 X144 e144 K144 j144_0 j144_1 P144_0 P144_1 P144_2 P144_3 N144
  have O147 : Ext Z.heap h144 := (Ext.keep O145 K144 (allS n_b101 (allS n_w_103 all0)))
  refine sg_nx hw a b101 B4 (0 : Int32) (7 : Int32) (4 : Int32) (5 : Int32) y4.toInt8.toInt32 C (by decide) (by decide) (by decide) (by decide) (by decide) (by decide) X144 e144 O147  N144 ?_
  obtain ⟨B5, hB5⟩ : ∃ z, z = ((B4 <<< ((8 : Int32) &&& 31)) ||| (y5.toInt8.toInt32 &&& (255 : Int32))) := ⟨_, rfl⟩
  have vB5 := bufv hB5
  have c148 : AL Z h144 a ka .byte (by8 [y0, y1, y2, y3, y4, y5, y6]) := (AL.keep (AL.keep c139 K142 (ninS ne105 (ninS ne114 nin0))) K144 (ninS ne105 (ninS ne114 nin0)))
  refine sg_in hw a ka b101 B4 B5 (0 : Int32) (8 : Int32) (7 : Int32) (5 : Int32) (Slot.val (.int y4.toInt8.toInt32)) y5 5 (by8 [y0, y1, y2, y3, y4, y5, y6]) C (by decide) (by decide) (by decide) (by decide) (by decide) (by8_get rfl) (One.val rfl) hB5 (by decide) (by decide) (by decide) X144 e144 O147 c148 N144 ?_
  obtain ⟨d8, hd8⟩ : ∃ z, z = (((B5.toUInt32 >>> ((3 : Int32) &&& 31).toUInt32).toInt32) &&& (31 : Int32)) := ⟨_, rfl⟩
  have ud8 := ixv (3 : Int32) 3 8 (by decide) (by decide) (by decide) (by decide) hd8
  have gd8 := c_rng ud8
  have c150 : Exa Z h144 b101 "java/lang/StringBuilder" := (Exa.keep c143 K144)
  refine sg_ch hw a b101 w_103 kw_103 Y8 (16 : Nat) (8 : Nat) (9 : Nat) cP ta tk tb B5 (8 : Int32) (3 : Int32) (7 : Int32) (5 : Int32) y5.toInt8.toInt32 d8 C (by decide) (by decide) (by decide) j144_1 (by decide) rfl hP n_b101 n_w_103 ne109 htb (by decide) (by decide) hd8 gd8 (by decide) (by decide) X144 e144 O147 c150 P144_0 P144_1 P144_2 P144_3 SC ST AT N144 ?_
  intro T151 L151 h151 Y9 X151 e151 K151 j151_0 j151_1 P151_0 P151_1 P151_2 P151_3 N151
  have O153 : Ext Z.heap h151 := (Ext.keep O147 K151 (allS n_b101 (allS n_w_103 all0)))
  refine sg_nx hw a b101 B5 (3 : Int32) (7 : Int32) (5 : Int32) (6 : Int32) y5.toInt8.toInt32 C (by decide) (by decide) (by decide) (by decide) (by decide) (by decide) X151 e151 O153  N151 ?_
  obtain ⟨B6, hB6⟩ : ∃ z, z = ((B5 <<< ((8 : Int32) &&& 31)) ||| (y6.toInt8.toInt32 &&& (255 : Int32))) := ⟨_, rfl⟩
  have vB6 := bufv hB6
  have c154 : AL Z h151 a ka .byte (by8 [y0, y1, y2, y3, y4, y5, y6]) := (AL.keep c148 K151 (ninS ne105 (ninS ne114 nin0)))
  refine sg_in hw a ka b101 B5 B6 (3 : Int32) (11 : Int32) (7 : Int32) (6 : Int32) (Slot.val (.int y5.toInt8.toInt32)) y6 6 (by8 [y0, y1, y2, y3, y4, y5, y6]) C (by decide) (by decide) (by decide) (by decide) (by decide) (by8_get rfl) (One.val rfl) hB6 (by decide) (by decide) (by decide) X151 e151 O153 c154 N151 ?_
  obtain ⟨d9, hd9⟩ : ∃ z, z = (((B6.toUInt32 >>> ((6 : Int32) &&& 31).toUInt32).toInt32) &&& (31 : Int32)) := ⟨_, rfl⟩
  have ud9 := ixv (6 : Int32) 6 64 (by decide) (by decide) (by decide) (by decide) hd9
  have gd9 := c_rng ud9
  have c156 : Exa Z h151 b101 "java/lang/StringBuilder" := (Exa.keep c150 K151)
  refine sg_ch hw a b101 w_103 kw_103 Y9 (16 : Nat) (9 : Nat) (10 : Nat) cP ta tk tb B6 (11 : Int32) (6 : Int32) (7 : Int32) (6 : Int32) y6.toInt8.toInt32 d9 C (by decide) (by decide) (by decide) j151_1 (by decide) rfl hP n_b101 n_w_103 ne109 htb (by decide) (by decide) hd9 gd9 (by decide) (by decide) X151 e151 O153 c156 P151_0 P151_1 P151_2 P151_3 SC ST AT N151 ?_
  intro T157 L157 h157 Y10 X157 e157 K157 j157_0 j157_1 P157_0 P157_1 P157_2 P157_3 N157
  obtain ⟨d10, hd10⟩ : ∃ z, z = (((B6.toUInt32 >>> ((1 : Int32) &&& 31).toUInt32).toInt32) &&& (31 : Int32)) := ⟨_, rfl⟩
  have ud10 := ixv (1 : Int32) 1 2 (by decide) (by decide) (by decide) (by decide) hd10
  have gd10 := c_rng ud10
  have c158 : Exa Z h157 b101 "java/lang/StringBuilder" := (Exa.keep c156 K157)
  have O160 : Ext Z.heap h157 := (Ext.keep O153 K157 (allS n_b101 (allS n_w_103 all0)))
  refine sg_ch hw a b101 w_103 kw_103 Y10 (16 : Nat) (10 : Nat) (11 : Nat) cP ta tk tb B6 (6 : Int32) (1 : Int32) (7 : Int32) (6 : Int32) y6.toInt8.toInt32 d10 C (by decide) (by decide) (by decide) j157_1 (by decide) rfl hP n_b101 n_w_103 ne109 htb (by decide) (by decide) hd10 gd10 (by decide) (by decide) X157 e157 O160 c158 P157_0 P157_1 P157_2 P157_3 SC ST AT N157 ?_
  intro T159 L159 h159 Y11 X159 e159 K159 j159_0 j159_1 P159_0 P159_1 P159_2 P159_3 N159
  have O162 : Ext Z.heap h159 := (Ext.keep O160 K159 (allS n_b101 (allS n_w_103 all0)))
  refine sg_nx hw a b101 B6 (1 : Int32) (7 : Int32) (6 : Int32) (7 : Int32) y6.toInt8.toInt32 C (by decide) (by decide) (by decide) (by decide) (by decide) (by decide) X159 e159 O162  N159 ?_
  refine Go.iload (pc' := 34) C X159 d9_32 rfl rfl ?_
  refine Go.iload (pc' := 36) C X159 d9_34 rfl rfl ?_
  refine Go.icmpYes (pc' := 93) C X159 d9_36 (flt (x := (7 : Int32)) (y := (7 : Int32)) (by decide)).2.1 (by decide) (by decide) ?_
  obtain ⟨d11, hd11⟩ : ∃ z, z = ((B6 <<< (((5 : Int32) - (1 : Int32)) &&& 31)) &&& (31 : Int32)) := ⟨_, rfl⟩
  have ud11 := ixl ((5 : Int32) - (1 : Int32)) 4 16 (by decide) (by decide) (by decide) hd11
  have gd11 := c_rng ud11
  have c164 : Exa Z h159 b101 "java/lang/StringBuilder" := (Exa.keep c158 K159)
  refine sg_tl hw a b101 w_103 kw_103 Y11 (16 : Nat) (11 : Nat) (12 : Nat) cP ta tk tb B6 (1 : Int32) (7 : Int32) (7 : Int32) y6.toInt8.toInt32 d11 C (by decide) (by decide) (by decide) j159_1 (by decide) rfl hP n_b101 n_w_103 ne109 htb (by decide) hd11 gd11 (by decide) (by decide) X159 e159 O162 c164 P159_0 P159_1 P159_2 P159_3 SC ST AT N159 ?_
  intro T165 L165 h165 Y12 X165 e165 K165 j165_0 j165_1 P165_0 P165_1 P165_2 P165_3 N165
  have c166 : Exa Z h165 b101 "java/lang/StringBuilder" := (Exa.keep c164 K165)
  have O168 : Ext Z.heap h165 := (Ext.keep O162 K165 (allS n_b101 (allS n_w_103 all0)))
  refine sg_pd hw a b101 w_103 kw_103 Y12 (16 : Nat) (12 : Nat) (13 : Nat) cP B6 (1 : Int32) (7 : Int32) (7 : Int32) y6.toInt8.toInt32 C (by decide) (by decide) (by decide) j165_1 (by decide) rfl hP n_b101 n_w_103 ne109 (by decide) (by decide) (by decide) X165 e165 O168 c166 P165_0 P165_1 P165_2 P165_3 SC N165 ?_
  intro T167 L167 h167 Y13 X167 e167 K167 j167_0 j167_1 P167_0 P167_1 P167_2 P167_3 N167
  have c169 : Exa Z h167 b101 "java/lang/StringBuilder" := (Exa.keep c166 K167)
  have O171 : Ext Z.heap h167 := (Ext.keep O168 K167 (allS n_b101 (allS n_w_103 all0)))
  refine sg_pd hw a b101 w_103 kw_103 Y13 (16 : Nat) (13 : Nat) (14 : Nat) cP B6 (1 : Int32) (7 : Int32) (7 : Int32) y6.toInt8.toInt32 C (by decide) (by decide) (by decide) j167_1 (by decide) rfl hP n_b101 n_w_103 ne109 (by decide) (by decide) (by decide) X167 e167 O171 c169 P167_0 P167_1 P167_2 P167_3 SC N167 ?_
  intro T170 L170 h170 Y14 X170 e170 K170 j170_0 j170_1 P170_0 P170_1 P170_2 P170_3 N170
  have c172 : Exa Z h170 b101 "java/lang/StringBuilder" := (Exa.keep c169 K170)
  have O174 : Ext Z.heap h170 := (Ext.keep O171 K170 (allS n_b101 (allS n_w_103 all0)))
  refine sg_pd hw a b101 w_103 kw_103 Y14 (16 : Nat) (14 : Nat) (15 : Nat) cP B6 (1 : Int32) (7 : Int32) (7 : Int32) y6.toInt8.toInt32 C (by decide) (by decide) (by decide) j170_1 (by decide) rfl hP n_b101 n_w_103 ne109 (by decide) (by decide) (by decide) X170 e170 O174 c172 P170_0 P170_1 P170_2 P170_3 SC N170 ?_
  intro T173 L173 h173 Y15 X173 e173 K173 j173_0 j173_1 P173_0 P173_1 P173_2 P173_3 N173
  have c175 : Exa Z h173 b101 "java/lang/StringBuilder" := (Exa.keep c172 K173)
  have O177 : Ext Z.heap h173 := (Ext.keep O174 K173 (allS n_b101 (allS n_w_103 all0)))
  refine sg_pd hw a b101 w_103 kw_103 Y15 (16 : Nat) (15 : Nat) (16 : Nat) cP B6 (1 : Int32) (7 : Int32) (7 : Int32) y6.toInt8.toInt32 C (by decide) (by decide) (by decide) j173_1 (by decide) rfl hP n_b101 n_w_103 ne109 (by decide) (by decide) (by decide) X173 e173 O177 c175 P173_0 P173_1 P173_2 P173_3 SC N173 ?_
  intro T176 L176 h176 Y16 X176 e176 K176 j176_0 j176_1 P176_0 P176_1 P176_2 P176_3 N176
  refine Go.aloadN (pc' := 115) C X176 d9_114 rfl rfl rfl ?_
  have c179 : Exa Z h176 b101 "java/lang/StringBuilder" := (Exa.keep c175 K176)
  have O180 : Ext Z.heap h176 := (Ext.keep O177 K176 (allS n_b101 (allS n_w_103 all0)))
  refine Go.callV (y := mN22) (z := mN22) (a := b101) (pc' := 118) C X176 (tw hw 63 rfl) (tw hw 64 rfl) (notFace_at C.2.1 (tw hw 66 rfl)) (tw hw 66 rfl) (tw hw 65 rfl) c179 (by decide) (rm_sbl l Z a0 hw b101 ((16 : Nat).toInt32) h176 O180 c179 P176_2) (tw hw 67 rfl) (tw hw 45 rfl) e176 (argsL := []) (rest := []) (W := 0) rfl rfl pd_6 rfl (Nat.le_of_eq rfl) rfl (by decide) (by decide) (by decide) (by decide) d9_115 rfl ?_
  intro T178 v178 L178 X178 q178
  obtain ⟨rfl, rfl, e178⟩ := q178
  have N178 := Fr.app N176 (Fr.nil _)
  rw [show (16 : Nat).toInt32 = (16 : Int32) from rfl]
  refine Go.bipush (z := (8 : Int32)) (pc' := 120) C X178 d9_118 rfl rfl ?_
  refine Go.irem (pc' := 121) C X178 d9_120 (by decide) rfl ?_
  rw [show ((16 : Int32) % (8 : Int32)) = (0 : Int32) from by decide]
  refine Go.ifYes (pc' := 134) C X178 d9_121 ((if0 _ _).trans (teq (x := (0 : Int32)) (y := (0 : Int32)) (by decide)).1) (by decide) (by decide) ?_
  have ctE : Fld Z h176 b101 "java/lang/AbstractStringBuilder" "count" "I" (.int Y16.length.toInt32) := by rw [j176_1]; exact P176_2
  refine Go.aloadN (pc' := 135) C X178 d9_134 rfl rfl rfl ?_
  have c183 : Exa Z h176 w_103 "[B" := (Exa.keep (Exa.keep (Exa.keep (Exa.keep (Exa.keep (Exa.keep (Exa.keep (Exa.keep (Exa.keep (Exa.keep (Exa.keep (Exa.keep (Exa.keep (Exa.keep (Exa.keep (Exa.keep P103_3 K111) K118) K120) K127) K133) K135) K142) K144) K151) K157) K159) K165) K167) K170) K173) K176)
  refine Go.callV (y := mN23) (z := mN23) (a := b101) (pc' := 138) C X178 (tw hw 75 rfl) (tw hw 76 rfl) (notFace_at C.2.1 (tw hw 78 rfl)) (tw hw 78 rfl) (tw hw 77 rfl) c179 (by decide) (rm_tos l Z a0 hw b101 w_103 kw_103 Y16 cP h176 O180 c179 P176_0 P176_1 ctE c183 P176_3 SC (by rw [j176_1]; decide) hP) (tw hw 79 rfl) (tw hw 45 rfl) e178 (argsL := []) (rest := []) (W := 0) rfl rfl pd_18 rfl (Nat.le_of_eq rfl) rfl (by decide) (by decide) (by decide) (by decide) d9_135 rfl ?_
  intro T182 v182 L182 X182 q182
  obtain ⟨s1_182, v_182, kv_182, rfl, N182q, K182, B182_0, B182_1, P182_0, P182_1, P182_2, P182_3⟩ := q182
  have N182 := Fr.app N178 N182q
  have n_s1_182 : Z.heap.size ≤ s1_182 := Nat.le_trans O180.1 B182_0
  have z_s1_182 : h0.size ≤ s1_182 := Nat.le_trans (Nat.le_trans (Nat.le_trans (Nat.le_trans (Nat.le_trans (Nat.le_trans (Nat.le_trans (Nat.le_trans (Nat.le_trans (Nat.le_trans (Nat.le_trans (Nat.le_trans (Nat.le_trans (Nat.le_trans (Nat.le_trans (Nat.le_trans (Nat.le_trans (Nat.le_trans (Nat.le_trans (Nat.le_refl _) E101.1) K103.1) K111.1) K118.1) K120.1) K127.1) K133.1) K135.1) K142.1) K144.1) K151.1) K157.1) K159.1) K165.1) K167.1) K170.1) K173.1) K176.1) B182_0
  have n_v_182 : Z.heap.size ≤ v_182 := Nat.le_trans O180.1 B182_1
  have z_v_182 : h0.size ≤ v_182 := Nat.le_trans (Nat.le_trans (Nat.le_trans (Nat.le_trans (Nat.le_trans (Nat.le_trans (Nat.le_trans (Nat.le_trans (Nat.le_trans (Nat.le_trans (Nat.le_trans (Nat.le_trans (Nat.le_trans (Nat.le_trans (Nat.le_trans (Nat.le_trans (Nat.le_trans (Nat.le_trans (Nat.le_trans (Nat.le_refl _) E101.1) K103.1) K111.1) K118.1) K120.1) K127.1) K133.1) K135.1) K142.1) K144.1) K151.1) K157.1) K159.1) K165.1) K167.1) K170.1) K173.1) K176.1) B182_1
  have K184 : Keep h0 T182.heap [] := ((((((((((((((((((((Keep.refl h0 []).ext E101).trans K103 (allS (Or.inr z_b101) all0)).trans K111 (allS (Or.inr z_b101) (allS (Or.inr z_w_103) all0))).trans K118 (allS (Or.inr z_b101) (allS (Or.inr z_w_103) all0))).trans K120 (allS (Or.inr z_b101) (allS (Or.inr z_w_103) all0))).trans K127 (allS (Or.inr z_b101) (allS (Or.inr z_w_103) all0))).trans K133 (allS (Or.inr z_b101) (allS (Or.inr z_w_103) all0))).trans K135 (allS (Or.inr z_b101) (allS (Or.inr z_w_103) all0))).trans K142 (allS (Or.inr z_b101) (allS (Or.inr z_w_103) all0))).trans K144 (allS (Or.inr z_b101) (allS (Or.inr z_w_103) all0))).trans K151 (allS (Or.inr z_b101) (allS (Or.inr z_w_103) all0))).trans K157 (allS (Or.inr z_b101) (allS (Or.inr z_w_103) all0))).trans K159 (allS (Or.inr z_b101) (allS (Or.inr z_w_103) all0))).trans K165 (allS (Or.inr z_b101) (allS (Or.inr z_w_103) all0))).trans K167 (allS (Or.inr z_b101) (allS (Or.inr z_w_103) all0))).trans K170 (allS (Or.inr z_b101) (allS (Or.inr z_w_103) all0))).trans K173 (allS (Or.inr z_b101) (allS (Or.inr z_w_103) all0))).trans K176 (allS (Or.inr z_b101) (allS (Or.inr z_w_103) all0))).trans K182 all0)
  exact Go.retA C X182 rfl d9_138 rfl rfl rfl ⟨s1_182, v_182, kv_182, d0, d1, d2, d3, d4, d5, d6, d7, d8, d9, d10, d11, rfl, N182, K184, z_s1_182, z_v_182, P182_0, P182_1, P182_2, (by have q := P182_3; rw [j176_0, j173_0, j170_0, j167_0, j165_0, j159_0, j157_0, j151_0, j144_0, j142_0, j135_0, j133_0, j127_0, j120_0, j118_0, j111_0] at q; exact q), (qv ud0 vB0 p0z), (qv ud1 vB1 (bufw vB0)), (qv ud2 vB1 (bufw vB0)), (qv ud3 vB2 (bufw vB1)), (qv ud4 vB3 (bufw vB2)), (qv ud5 vB3 (bufw vB2)), (qv ud6 vB4 (bufw vB3)), (qv ud7 vB4 (bufw vB3)), (qv ud8 vB5 (bufw vB4)), (qv ud9 vB6 (bufw vB5)), (qv ud10 vB6 (bufw vB5)), (ql ud11 vB6)⟩ (by decide) (by decide)
def Q_b32_8 (Z : State) (a : Addr) (ka : ClassId) (cP : Int32) (ta : Addr) (tk : ClassId) (tb : List Value) (y0 : Int32) (y1 : Int32) (y2 : Int32) (y3 : Int32) (y4 : Int32) (y5 : Int32) (y6 : Int32) (y7 : Int32) (h0 : Heap) (rv : Option Value) (h : Heap) (L : List Loc) : Prop := ∃ s1 : Addr, ∃ v : Addr, ∃ kv : ClassId, ∃ c0 : Int32, ∃ c1 : Int32, ∃ c2 : Int32, ∃ c3 : Int32, ∃ c4 : Int32, ∃ c5 : Int32, ∃ c6 : Int32, ∃ c7 : Int32, ∃ c8 : Int32, ∃ c9 : Int32, ∃ c10 : Int32, ∃ c11 : Int32, ∃ c12 : Int32, rv = some (.ref s1) ∧ Fr Z.heap.size L ∧ Keep h0 h [] ∧ h0.size ≤ s1 ∧ h0.size ≤ v ∧ Exa Z h s1 "java/lang/String" ∧ Fld Z h s1 "java/lang/String" "value" "[B" (.ref v) ∧ Fld Z h s1 "java/lang/String" "coder" "B" (.int (0 : Int32)) ∧ AL Z h v kv .byte (by8 [(alf c0), (alf c1), (alf c2), (alf c3), (alf c4), (alf c5), (alf c6), (alf c7), (alf c8), (alf c9), (alf c10), (alf c11), (alf c12), 61, 61, 61]) ∧ (c0.toInt = ((0) * 256 + y0.toInt % 256) / 8 % 32) ∧ (c1.toInt = ((y0.toInt % 16) * 256 + y1.toInt % 256) / 64 % 32) ∧ (c2.toInt = ((y0.toInt % 16) * 256 + y1.toInt % 256) / 2 % 32) ∧ (c3.toInt = ((y1.toInt % 16) * 256 + y2.toInt % 256) / 16 % 32) ∧ (c4.toInt = ((y2.toInt % 16) * 256 + y3.toInt % 256) / 128 % 32) ∧ (c5.toInt = ((y2.toInt % 16) * 256 + y3.toInt % 256) / 4 % 32) ∧ (c6.toInt = ((y3.toInt % 16) * 256 + y4.toInt % 256) / 32 % 32) ∧ (c7.toInt = ((y3.toInt % 16) * 256 + y4.toInt % 256) / 1 % 32) ∧ (c8.toInt = ((y4.toInt % 16) * 256 + y5.toInt % 256) / 8 % 32) ∧ (c9.toInt = ((y5.toInt % 16) * 256 + y6.toInt % 256) / 64 % 32) ∧ (c10.toInt = ((y5.toInt % 16) * 256 + y6.toInt % 256) / 2 % 32) ∧ (c11.toInt = ((y6.toInt % 16) * 256 + y7.toInt % 256) / 16 % 32) ∧ (c12.toInt = (y7.toInt % 256) * 2 % 32)
theorem rm_b32_8 (l : Launch) (Z : State) (a0 : Array Value) (hw : ∀ d ∈ tables_1, d.before a0 Z = true) (a : Addr) (ka : ClassId) (cP : Int32) (ta : Addr) (tk : ClassId) (tb : List Value) (y0 : Int32) (y1 : Int32) (y2 : Int32) (y3 : Int32) (y4 : Int32) (y5 : Int32) (y6 : Int32) (y7 : Int32) (h0 : Heap) (O0 : Ext Z.heap h0) (A0 : AL Z h0 a ka .byte (by8 [y0, y1, y2, y3, y4, y5, y6, y7])) (SC : Sta Z Z.heap "java/lang/String" "COMPACT_STRINGS" "Z" (.int cP)) (ST : Sta Z Z.heap "com/example/barrault/barrault/io/WarcDigest" "BASE32" "[C" (.ref ta)) (AT : AL Z Z.heap ta tk .char tb) (hP : ¬ cP = (0 : Int32)) (htb : ∀ c : Int32, 0 ≤ c.toInt → c.toInt < 32 → tb[c.toNatClampNeg]? = some (.int (alf c))) :
    Met1 l Z mN0 prog_23_method_5_code 8 (some (.object "java/lang/String")) ({ frames := 5, cells := 4, slots := 40, locals := 71 } : Room) #[(.ref a)] h0 (Q_b32_8 Z a ka cP ta tk tb y0 y1 y2 y3 y4 y5 y6 y7 h0) := by
  refine Met1.of_body (Ls := #[.val (.ref a), .unset, .unset, .unset, .unset, .unset, .unset, .unset]) pf_9 (fun m => by first | (simp [entryFrame, mkF, argsToLocals, Value.category]; done) | rfl) ?_
  intro p e s m below meth c T0 C X0 e0
  have N0 : Fr Z.heap.size [] := Fr.nil _
  refine Go.newO (pc' := 3) C X0 (tw hw 43 rfl) (tw hw 44 rfl) (tw hw 45 rfl) e0 (by decide) (by decide) d9_0 rfl ?_
  intro T101 h101 b101 X101 e101 g101 E101 A101 D101
  have n_b101 : Z.heap.size ≤ b101 := Nat.le_trans O0.1 (Nat.le_of_eq g101.symm)
  have z_b101 : h0.size ≤ b101 := Nat.le_trans (Nat.le_refl _) (Nat.le_of_eq g101.symm)
  have F101_value : Fld Z h101 b101 "java/lang/AbstractStringBuilder" "value" "[B" .null := D101 (Or.inl (tw hw 60 rfl)) (ty := (.array .byte)) (by decide)
  have F101_coder : Fld Z h101 b101 "java/lang/AbstractStringBuilder" "coder" "B" (.int (0 : Int32)) := D101 (Or.inl (tw hw 62 rfl)) (ty := .byte) (by decide)
  have F101_count : Fld Z h101 b101 "java/lang/AbstractStringBuilder" "count" "I" (.int (0 : Int32)) := D101 (Or.inl (tw hw 74 rfl)) (ty := .int) (by decide)
  refine Go.dup (pc' := 4) C X101 d9_3 rfl rfl ?_
  refine Go.aloadN (pc' := 5) C X101 d9_4 rfl rfl rfl ?_
  have c102 : AL Z h101 a ka .byte (by8 [y0, y1, y2, y3, y4, y5, y6, y7]) := (AL.ext E101 A0)
  refine Go.alen (z := (8 : Int32)) (pc' := 6) C X101 e101 c102 (by rw [by8_len]; rfl) d9_5 rfl ?_
  refine Go.iconst (z := (4 : Int32)) (pc' := 7) C X101 d9_6 rfl rfl ?_
  refine Go.iadd (pc' := 8) C X101 d9_7 rfl ?_
  rw [show ((8 : Int32) + (4 : Int32)) = (12 : Int32) from by decide]
  refine Go.iconst (z := (5 : Int32)) (pc' := 9) C X101 d9_8 rfl rfl ?_
  refine Go.idiv (pc' := 10) C X101 d9_9 (by decide) rfl ?_
  refine Go.bipush (z := (8 : Int32)) (pc' := 12) C X101 d9_10 rfl rfl ?_
  refine Go.imul (pc' := 13) C X101 d9_12 rfl ?_
  rw [show (((12 : Int32) / (5 : Int32)) * (8 : Int32)) = (16 : Nat).toInt32 from by decide]
  have O104 : Ext Z.heap h101 := (Ext.trans O0 E101)
  refine Go.callI (y := mN20) (a := b101) (pc' := 16) C X101 rfl (tw hw 46 rfl) (tw hw 47 rfl) (by decide) (rm_sbI l Z a0 hw b101 ((16 : Nat)) cP h101 O104 A101 F101_value F101_coder F101_count SC n_b101 hP (by decide)) (tw hw 48 rfl) (tw hw 45 rfl) e101 (argsL := [(.int (16 : Nat).toInt32)]) (rest := [(.ref b101)]) (W := 1) rfl rfl pd_5 rfl (Nat.le_of_eq rfl) rfl (by decide) (by decide) (by decide) (by decide) rfl d9_13 rfl ?_
  intro T103 v103 L103 X103 q103
  obtain ⟨w_103, kw_103, rfl, N103q, K103, B103_0, P103_0, P103_1, P103_2, P103_3, P103_4⟩ := q103
  have N103 := Fr.app N0 N103q
  have n_w_103 : Z.heap.size ≤ w_103 := Nat.le_trans O104.1 B103_0
  have z_w_103 : h0.size ≤ w_103 := Nat.le_trans (Nat.le_trans (Nat.le_refl _) E101.1) B103_0
  refine Go.astoreN (Ls' := #[.val (.ref a), .val (.ref b101), .unset, .unset, .unset, .unset, .unset, .unset]) (pc' := 17) C X103 d9_16 rfl rfl rfl ?_
  refine Go.iconst (z := (0 : Int32)) (pc' := 18) C X103 d9_17 rfl rfl ?_
  refine Go.istoreN (Ls' := #[.val (.ref a), .val (.ref b101), .val (.int (0 : Int32)), .unset, .unset, .unset, .unset, .unset]) (pc' := 19) C X103 d9_18 rfl rfl ?_
  refine Go.iconst (z := (0 : Int32)) (pc' := 20) C X103 d9_19 rfl rfl ?_
  refine Go.istoreN (Ls' := #[.val (.ref a), .val (.ref b101), .val (.int (0 : Int32)), .val (.int (0 : Int32)), .unset, .unset, .unset, .unset]) (pc' := 21) C X103 d9_20 rfl rfl ?_
  refine Go.aloadN (pc' := 22) C X103 d9_21 rfl rfl rfl ?_
  refine Go.astore (Ls' := #[.val (.ref a), .val (.ref b101), .val (.int (0 : Int32)), .val (.int (0 : Int32)), .val (.ref a), .unset, .unset, .unset]) (pc' := 24) C X103 d9_22 rfl rfl rfl ?_
  refine Go.aload (pc' := 26) C X103 d9_24 rfl rfl rfl ?_
  have ne105 : a ≠ b101 := Nat.ne_of_lt (Nat.lt_of_lt_of_le A0.lt (Nat.le_trans (Nat.le_refl _) (Nat.le_of_eq g101.symm)))
  have c106 : AL Z T103.heap a ka .byte (by8 [y0, y1, y2, y3, y4, y5, y6, y7]) := (AL.keep c102 K103 (ninS ne105 nin0))
  refine Go.alen (z := (8 : Int32)) (pc' := 27) C X103 rfl c106 (by rw [by8_len]; rfl) d9_26 rfl ?_
  refine Go.istore (Ls' := #[.val (.ref a), .val (.ref b101), .val (.int (0 : Int32)), .val (.int (0 : Int32)), .val (.ref a), .val (.int (8 : Int32)), .unset, .unset]) (pc' := 29) C X103 d9_27 rfl rfl ?_
  refine Go.iconst (z := (0 : Int32)) (pc' := 30) C X103 d9_29 rfl rfl ?_
  refine Go.istore (Ls' := #[.val (.ref a), .val (.ref b101), .val (.int (0 : Int32)), .val (.int (0 : Int32)), .val (.ref a), .val (.int (8 : Int32)), .val (.int (0 : Int32)), .unset]) (pc' := 32) C X103 d9_30 rfl rfl ?_
  obtain ⟨B0, hB0⟩ : ∃ z, z = (((0 : Int32) <<< ((8 : Int32) &&& 31)) ||| (y0.toInt8.toInt32 &&& (255 : Int32))) := ⟨_, rfl⟩
  have vB0 := bufv hB0
  have O108 : Ext Z.heap T103.heap := (Ext.keep O104 K103 (allS n_b101 all0))
  refine sg_in hw a ka b101 (0 : Int32) B0 (0 : Int32) (8 : Int32) (8 : Int32) (0 : Int32) Slot.unset y0 0 (by8 [y0, y1, y2, y3, y4, y5, y6, y7]) C (by decide) (by decide) (by decide) (by decide) (by decide) (by8_get rfl) One.u hB0 (by decide) (by decide) (by decide) X103 rfl O108 c106 N103 ?_
  obtain ⟨d0, hd0⟩ : ∃ z, z = (((B0.toUInt32 >>> ((3 : Int32) &&& 31).toUInt32).toInt32) &&& (31 : Int32)) := ⟨_, rfl⟩
  have ud0 := ixv (3 : Int32) 3 8 (by decide) (by decide) (by decide) (by decide) hd0
  have gd0 := c_rng ud0
  have lY0 : ((List.replicate (16 : Nat) 0) : List Int32).length = 16 := by simp
  have ct0 : Fld Z T103.heap b101 "java/lang/AbstractStringBuilder" "count" "I" (.int (0 : Nat).toInt32) := P103_2
  have ne109 : b101 ≠ w_103 := Nat.ne_of_lt (Nat.lt_of_lt_of_le A101.lt (Nat.le_trans (Nat.le_refl _) B103_0))
  have c110 : Exa Z T103.heap b101 "java/lang/StringBuilder" := (Exa.keep A101 K103)
  refine sg_ch hw a b101 w_103 kw_103 (List.replicate (16 : Nat) 0) (16 : Nat) (0 : Nat) (1 : Nat) cP ta tk tb B0 (8 : Int32) (3 : Int32) (8 : Int32) (0 : Int32) y0.toInt8.toInt32 d0 C (by decide) (by decide) (by decide) lY0 (by decide) rfl hP n_b101 n_w_103 ne109 htb (by decide) (by decide) hd0 gd0 (by decide) (by decide) X103 rfl O108 c110 P103_0 P103_1 ct0 P103_4 SC ST AT N103 ?_
  intro T111 L111 h111 Y1 X111 e111 K111 j111_0 j111_1 P111_0 P111_1 P111_2 P111_3 N111
  have O113 : Ext Z.heap h111 := (Ext.keep O108 K111 (allS n_b101 (allS n_w_103 all0)))
  refine sg_nx hw a b101 B0 (3 : Int32) (8 : Int32) (0 : Int32) (1 : Int32) y0.toInt8.toInt32 C (by decide) (by decide) (by decide) (by decide) (by decide) (by decide) X111 e111 O113  N111 ?_
  obtain ⟨B1, hB1⟩ : ∃ z, z = ((B0 <<< ((8 : Int32) &&& 31)) ||| (y1.toInt8.toInt32 &&& (255 : Int32))) := ⟨_, rfl⟩
  have vB1 := bufv hB1
  have ne114 : a ≠ w_103 := Nat.ne_of_lt (Nat.lt_of_lt_of_le A0.lt (Nat.le_trans (Nat.le_trans (Nat.le_refl _) E101.1) B103_0))
  have c115 : AL Z h111 a ka .byte (by8 [y0, y1, y2, y3, y4, y5, y6, y7]) := (AL.keep c106 K111 (ninS ne105 (ninS ne114 nin0)))
  refine sg_in hw a ka b101 B0 B1 (3 : Int32) (11 : Int32) (8 : Int32) (1 : Int32) (Slot.val (.int y0.toInt8.toInt32)) y1 1 (by8 [y0, y1, y2, y3, y4, y5, y6, y7]) C (by decide) (by decide) (by decide) (by decide) (by decide) (by8_get rfl) (One.val rfl) hB1 (by decide) (by decide) (by decide) X111 e111 O113 c115 N111 ?_
  obtain ⟨d1, hd1⟩ : ∃ z, z = (((B1.toUInt32 >>> ((6 : Int32) &&& 31).toUInt32).toInt32) &&& (31 : Int32)) := ⟨_, rfl⟩
  have ud1 := ixv (6 : Int32) 6 64 (by decide) (by decide) (by decide) (by decide) hd1
  have gd1 := c_rng ud1
  have c117 : Exa Z h111 b101 "java/lang/StringBuilder" := (Exa.keep c110 K111)
  refine sg_ch hw a b101 w_103 kw_103 Y1 (16 : Nat) (1 : Nat) (2 : Nat) cP ta tk tb B1 (11 : Int32) (6 : Int32) (8 : Int32) (1 : Int32) y1.toInt8.toInt32 d1 C (by decide) (by decide) (by decide) j111_1 (by decide) rfl hP n_b101 n_w_103 ne109 htb (by decide) (by decide) hd1 gd1 (by decide) (by decide) X111 e111 O113 c117 P111_0 P111_1 P111_2 P111_3 SC ST AT N111 ?_
  intro T118 L118 h118 Y2 X118 e118 K118 j118_0 j118_1 P118_0 P118_1 P118_2 P118_3 N118
  obtain ⟨d2, hd2⟩ : ∃ z, z = (((B1.toUInt32 >>> ((1 : Int32) &&& 31).toUInt32).toInt32) &&& (31 : Int32)) := ⟨_, rfl⟩
  have ud2 := ixv (1 : Int32) 1 2 (by decide) (by decide) (by decide) (by decide) hd2
  have gd2 := c_rng ud2
  have c119 : Exa Z h118 b101 "java/lang/StringBuilder" := (Exa.keep c117 K118)
  have O121 : Ext Z.heap h118 := (Ext.keep O113 K118 (allS n_b101 (allS n_w_103 all0)))
  refine sg_ch hw a b101 w_103 kw_103 Y2 (16 : Nat) (2 : Nat) (3 : Nat) cP ta tk tb B1 (6 : Int32) (1 : Int32) (8 : Int32) (1 : Int32) y1.toInt8.toInt32 d2 C (by decide) (by decide) (by decide) j118_1 (by decide) rfl hP n_b101 n_w_103 ne109 htb (by decide) (by decide) hd2 gd2 (by decide) (by decide) X118 e118 O121 c119 P118_0 P118_1 P118_2 P118_3 SC ST AT N118 ?_
  intro T120 L120 h120 Y3 X120 e120 K120 j120_0 j120_1 P120_0 P120_1 P120_2 P120_3 N120
  have O123 : Ext Z.heap h120 := (Ext.keep O121 K120 (allS n_b101 (allS n_w_103 all0)))
  refine sg_nx hw a b101 B1 (1 : Int32) (8 : Int32) (1 : Int32) (2 : Int32) y1.toInt8.toInt32 C (by decide) (by decide) (by decide) (by decide) (by decide) (by decide) X120 e120 O123  N120 ?_
  obtain ⟨B2, hB2⟩ : ∃ z, z = ((B1 <<< ((8 : Int32) &&& 31)) ||| (y2.toInt8.toInt32 &&& (255 : Int32))) := ⟨_, rfl⟩
  have vB2 := bufv hB2
  have c124 : AL Z h120 a ka .byte (by8 [y0, y1, y2, y3, y4, y5, y6, y7]) := (AL.keep (AL.keep c115 K118 (ninS ne105 (ninS ne114 nin0))) K120 (ninS ne105 (ninS ne114 nin0)))
  refine sg_in hw a ka b101 B1 B2 (1 : Int32) (9 : Int32) (8 : Int32) (2 : Int32) (Slot.val (.int y1.toInt8.toInt32)) y2 2 (by8 [y0, y1, y2, y3, y4, y5, y6, y7]) C (by decide) (by decide) (by decide) (by decide) (by decide) (by8_get rfl) (One.val rfl) hB2 (by decide) (by decide) (by decide) X120 e120 O123 c124 N120 ?_
  obtain ⟨d3, hd3⟩ : ∃ z, z = (((B2.toUInt32 >>> ((4 : Int32) &&& 31).toUInt32).toInt32) &&& (31 : Int32)) := ⟨_, rfl⟩
  have ud3 := ixv (4 : Int32) 4 16 (by decide) (by decide) (by decide) (by decide) hd3
  have gd3 := c_rng ud3
  have c126 : Exa Z h120 b101 "java/lang/StringBuilder" := (Exa.keep c119 K120)
  refine sg_ch hw a b101 w_103 kw_103 Y3 (16 : Nat) (3 : Nat) (4 : Nat) cP ta tk tb B2 (9 : Int32) (4 : Int32) (8 : Int32) (2 : Int32) y2.toInt8.toInt32 d3 C (by decide) (by decide) (by decide) j120_1 (by decide) rfl hP n_b101 n_w_103 ne109 htb (by decide) (by decide) hd3 gd3 (by decide) (by decide) X120 e120 O123 c126 P120_0 P120_1 P120_2 P120_3 SC ST AT N120 ?_
  intro T127 L127 h127 Y4 X127 e127 K127 j127_0 j127_1 P127_0 P127_1 P127_2 P127_3 N127
  have O129 : Ext Z.heap h127 := (Ext.keep O123 K127 (allS n_b101 (allS n_w_103 all0)))
  refine sg_nx hw a b101 B2 (4 : Int32) (8 : Int32) (2 : Int32) (3 : Int32) y2.toInt8.toInt32 C (by decide) (by decide) (by decide) (by decide) (by decide) (by decide) X127 e127 O129  N127 ?_
  obtain ⟨B3, hB3⟩ : ∃ z, z = ((B2 <<< ((8 : Int32) &&& 31)) ||| (y3.toInt8.toInt32 &&& (255 : Int32))) := ⟨_, rfl⟩
  have vB3 := bufv hB3
  have c130 : AL Z h127 a ka .byte (by8 [y0, y1, y2, y3, y4, y5, y6, y7]) := (AL.keep c124 K127 (ninS ne105 (ninS ne114 nin0)))
  refine sg_in hw a ka b101 B2 B3 (4 : Int32) (12 : Int32) (8 : Int32) (3 : Int32) (Slot.val (.int y2.toInt8.toInt32)) y3 3 (by8 [y0, y1, y2, y3, y4, y5, y6, y7]) C (by decide) (by decide) (by decide) (by decide) (by decide) (by8_get rfl) (One.val rfl) hB3 (by decide) (by decide) (by decide) X127 e127 O129 c130 N127 ?_
  obtain ⟨d4, hd4⟩ : ∃ z, z = (((B3.toUInt32 >>> ((7 : Int32) &&& 31).toUInt32).toInt32) &&& (31 : Int32)) := ⟨_, rfl⟩
  have ud4 := ixv (7 : Int32) 7 128 (by decide) (by decide) (by decide) (by decide) hd4
  have gd4 := c_rng ud4
  have c132 : Exa Z h127 b101 "java/lang/StringBuilder" := (Exa.keep c126 K127)
  refine sg_ch hw a b101 w_103 kw_103 Y4 (16 : Nat) (4 : Nat) (5 : Nat) cP ta tk tb B3 (12 : Int32) (7 : Int32) (8 : Int32) (3 : Int32) y3.toInt8.toInt32 d4 C (by decide) (by decide) (by decide) j127_1 (by decide) rfl hP n_b101 n_w_103 ne109 htb (by decide) (by decide) hd4 gd4 (by decide) (by decide) X127 e127 O129 c132 P127_0 P127_1 P127_2 P127_3 SC ST AT N127 ?_
  intro T133 L133 h133 Y5 X133 e133 K133 j133_0 j133_1 P133_0 P133_1 P133_2 P133_3 N133
  obtain ⟨d5, hd5⟩ : ∃ z, z = (((B3.toUInt32 >>> ((2 : Int32) &&& 31).toUInt32).toInt32) &&& (31 : Int32)) := ⟨_, rfl⟩
  have ud5 := ixv (2 : Int32) 2 4 (by decide) (by decide) (by decide) (by decide) hd5
  have gd5 := c_rng ud5
  have c134 : Exa Z h133 b101 "java/lang/StringBuilder" := (Exa.keep c132 K133)
  have O136 : Ext Z.heap h133 := (Ext.keep O129 K133 (allS n_b101 (allS n_w_103 all0)))
  refine sg_ch hw a b101 w_103 kw_103 Y5 (16 : Nat) (5 : Nat) (6 : Nat) cP ta tk tb B3 (7 : Int32) (2 : Int32) (8 : Int32) (3 : Int32) y3.toInt8.toInt32 d5 C (by decide) (by decide) (by decide) j133_1 (by decide) rfl hP n_b101 n_w_103 ne109 htb (by decide) (by decide) hd5 gd5 (by decide) (by decide) X133 e133 O136 c134 P133_0 P133_1 P133_2 P133_3 SC ST AT N133 ?_
  intro T135 L135 h135 Y6 X135 e135 K135 j135_0 j135_1 P135_0 P135_1 P135_2 P135_3 N135
  have O138 : Ext Z.heap h135 := (Ext.keep O136 K135 (allS n_b101 (allS n_w_103 all0)))
  refine sg_nx hw a b101 B3 (2 : Int32) (8 : Int32) (3 : Int32) (4 : Int32) y3.toInt8.toInt32 C (by decide) (by decide) (by decide) (by decide) (by decide) (by decide) X135 e135 O138  N135 ?_
  obtain ⟨B4, hB4⟩ : ∃ z, z = ((B3 <<< ((8 : Int32) &&& 31)) ||| (y4.toInt8.toInt32 &&& (255 : Int32))) := ⟨_, rfl⟩
  have vB4 := bufv hB4
  have c139 : AL Z h135 a ka .byte (by8 [y0, y1, y2, y3, y4, y5, y6, y7]) := (AL.keep (AL.keep c130 K133 (ninS ne105 (ninS ne114 nin0))) K135 (ninS ne105 (ninS ne114 nin0)))
  refine sg_in hw a ka b101 B3 B4 (2 : Int32) (10 : Int32) (8 : Int32) (4 : Int32) (Slot.val (.int y3.toInt8.toInt32)) y4 4 (by8 [y0, y1, y2, y3, y4, y5, y6, y7]) C (by decide) (by decide) (by decide) (by decide) (by decide) (by8_get rfl) (One.val rfl) hB4 (by decide) (by decide) (by decide) X135 e135 O138 c139 N135 ?_
  obtain ⟨d6, hd6⟩ : ∃ z, z = (((B4.toUInt32 >>> ((5 : Int32) &&& 31).toUInt32).toInt32) &&& (31 : Int32)) := ⟨_, rfl⟩
  have ud6 := ixv (5 : Int32) 5 32 (by decide) (by decide) (by decide) (by decide) hd6
  have gd6 := c_rng ud6
  have c141 : Exa Z h135 b101 "java/lang/StringBuilder" := (Exa.keep c134 K135)
  refine sg_ch hw a b101 w_103 kw_103 Y6 (16 : Nat) (6 : Nat) (7 : Nat) cP ta tk tb B4 (10 : Int32) (5 : Int32) (8 : Int32) (4 : Int32) y4.toInt8.toInt32 d6 C (by decide) (by decide) (by decide) j135_1 (by decide) rfl hP n_b101 n_w_103 ne109 htb (by decide) (by decide) hd6 gd6 (by decide) (by decide) X135 e135 O138 c141 P135_0 P135_1 P135_2 P135_3 SC ST AT N135 ?_
  intro T142 L142 h142 Y7 X142 e142 K142 j142_0 j142_1 P142_0 P142_1 P142_2 P142_3 N142
  obtain ⟨d7, hd7⟩ : ∃ z, z = (((B4.toUInt32 >>> ((0 : Int32) &&& 31).toUInt32).toInt32) &&& (31 : Int32)) := ⟨_, rfl⟩
  have ud7 := ixv0 hd7
  have gd7 := c_rng ud7
  have c143 : Exa Z h142 b101 "java/lang/StringBuilder" := (Exa.keep c141 K142)
  have O145 : Ext Z.heap h142 := (Ext.keep O138 K142 (allS n_b101 (allS n_w_103 all0)))
  refine sg_ch hw a b101 w_103 kw_103 Y7 (16 : Nat) (7 : Nat) (8 : Nat) cP ta tk tb B4 (5 : Int32) (0 : Int32) (8 : Int32) (4 : Int32) y4.toInt8.toInt32 d7 C (by decide) (by decide) (by decide) j142_1 (by decide) rfl hP n_b101 n_w_103 ne109 htb (by decide) (by decide) hd7 gd7 (by decide) (by decide) X142 e142 O145 c143 P142_0 P142_1 P142_2 P142_3 SC ST AT N142 ?_
  intro T144 L144 h144 Y8 X144 e144 K144 j144_0 j144_1 P144_0 P144_1 P144_2 P144_3 N144
  have O147 : Ext Z.heap h144 := (Ext.keep O145 K144 (allS n_b101 (allS n_w_103 all0)))
  refine sg_nx hw a b101 B4 (0 : Int32) (8 : Int32) (4 : Int32) (5 : Int32) y4.toInt8.toInt32 C (by decide) (by decide) (by decide) (by decide) (by decide) (by decide) X144 e144 O147  N144 ?_
  obtain ⟨B5, hB5⟩ : ∃ z, z = ((B4 <<< ((8 : Int32) &&& 31)) ||| (y5.toInt8.toInt32 &&& (255 : Int32))) := ⟨_, rfl⟩
  have vB5 := bufv hB5
  have c148 : AL Z h144 a ka .byte (by8 [y0, y1, y2, y3, y4, y5, y6, y7]) := (AL.keep (AL.keep c139 K142 (ninS ne105 (ninS ne114 nin0))) K144 (ninS ne105 (ninS ne114 nin0)))
  refine sg_in hw a ka b101 B4 B5 (0 : Int32) (8 : Int32) (8 : Int32) (5 : Int32) (Slot.val (.int y4.toInt8.toInt32)) y5 5 (by8 [y0, y1, y2, y3, y4, y5, y6, y7]) C (by decide) (by decide) (by decide) (by decide) (by decide) (by8_get rfl) (One.val rfl) hB5 (by decide) (by decide) (by decide) X144 e144 O147 c148 N144 ?_
  obtain ⟨d8, hd8⟩ : ∃ z, z = (((B5.toUInt32 >>> ((3 : Int32) &&& 31).toUInt32).toInt32) &&& (31 : Int32)) := ⟨_, rfl⟩
  have ud8 := ixv (3 : Int32) 3 8 (by decide) (by decide) (by decide) (by decide) hd8
  have gd8 := c_rng ud8
  have c150 : Exa Z h144 b101 "java/lang/StringBuilder" := (Exa.keep c143 K144)
  refine sg_ch hw a b101 w_103 kw_103 Y8 (16 : Nat) (8 : Nat) (9 : Nat) cP ta tk tb B5 (8 : Int32) (3 : Int32) (8 : Int32) (5 : Int32) y5.toInt8.toInt32 d8 C (by decide) (by decide) (by decide) j144_1 (by decide) rfl hP n_b101 n_w_103 ne109 htb (by decide) (by decide) hd8 gd8 (by decide) (by decide) X144 e144 O147 c150 P144_0 P144_1 P144_2 P144_3 SC ST AT N144 ?_
  intro T151 L151 h151 Y9 X151 e151 K151 j151_0 j151_1 P151_0 P151_1 P151_2 P151_3 N151
  have O153 : Ext Z.heap h151 := (Ext.keep O147 K151 (allS n_b101 (allS n_w_103 all0)))
  refine sg_nx hw a b101 B5 (3 : Int32) (8 : Int32) (5 : Int32) (6 : Int32) y5.toInt8.toInt32 C (by decide) (by decide) (by decide) (by decide) (by decide) (by decide) X151 e151 O153  N151 ?_
  obtain ⟨B6, hB6⟩ : ∃ z, z = ((B5 <<< ((8 : Int32) &&& 31)) ||| (y6.toInt8.toInt32 &&& (255 : Int32))) := ⟨_, rfl⟩
  have vB6 := bufv hB6
  have c154 : AL Z h151 a ka .byte (by8 [y0, y1, y2, y3, y4, y5, y6, y7]) := (AL.keep c148 K151 (ninS ne105 (ninS ne114 nin0)))
  refine sg_in hw a ka b101 B5 B6 (3 : Int32) (11 : Int32) (8 : Int32) (6 : Int32) (Slot.val (.int y5.toInt8.toInt32)) y6 6 (by8 [y0, y1, y2, y3, y4, y5, y6, y7]) C (by decide) (by decide) (by decide) (by decide) (by decide) (by8_get rfl) (One.val rfl) hB6 (by decide) (by decide) (by decide) X151 e151 O153 c154 N151 ?_
  obtain ⟨d9, hd9⟩ : ∃ z, z = (((B6.toUInt32 >>> ((6 : Int32) &&& 31).toUInt32).toInt32) &&& (31 : Int32)) := ⟨_, rfl⟩
  have ud9 := ixv (6 : Int32) 6 64 (by decide) (by decide) (by decide) (by decide) hd9
  have gd9 := c_rng ud9
  have c156 : Exa Z h151 b101 "java/lang/StringBuilder" := (Exa.keep c150 K151)
  refine sg_ch hw a b101 w_103 kw_103 Y9 (16 : Nat) (9 : Nat) (10 : Nat) cP ta tk tb B6 (11 : Int32) (6 : Int32) (8 : Int32) (6 : Int32) y6.toInt8.toInt32 d9 C (by decide) (by decide) (by decide) j151_1 (by decide) rfl hP n_b101 n_w_103 ne109 htb (by decide) (by decide) hd9 gd9 (by decide) (by decide) X151 e151 O153 c156 P151_0 P151_1 P151_2 P151_3 SC ST AT N151 ?_
  intro T157 L157 h157 Y10 X157 e157 K157 j157_0 j157_1 P157_0 P157_1 P157_2 P157_3 N157
  obtain ⟨d10, hd10⟩ : ∃ z, z = (((B6.toUInt32 >>> ((1 : Int32) &&& 31).toUInt32).toInt32) &&& (31 : Int32)) := ⟨_, rfl⟩
  have ud10 := ixv (1 : Int32) 1 2 (by decide) (by decide) (by decide) (by decide) hd10
  have gd10 := c_rng ud10
  have c158 : Exa Z h157 b101 "java/lang/StringBuilder" := (Exa.keep c156 K157)
  have O160 : Ext Z.heap h157 := (Ext.keep O153 K157 (allS n_b101 (allS n_w_103 all0)))
  refine sg_ch hw a b101 w_103 kw_103 Y10 (16 : Nat) (10 : Nat) (11 : Nat) cP ta tk tb B6 (6 : Int32) (1 : Int32) (8 : Int32) (6 : Int32) y6.toInt8.toInt32 d10 C (by decide) (by decide) (by decide) j157_1 (by decide) rfl hP n_b101 n_w_103 ne109 htb (by decide) (by decide) hd10 gd10 (by decide) (by decide) X157 e157 O160 c158 P157_0 P157_1 P157_2 P157_3 SC ST AT N157 ?_
  intro T159 L159 h159 Y11 X159 e159 K159 j159_0 j159_1 P159_0 P159_1 P159_2 P159_3 N159
  have O162 : Ext Z.heap h159 := (Ext.keep O160 K159 (allS n_b101 (allS n_w_103 all0)))
  refine sg_nx hw a b101 B6 (1 : Int32) (8 : Int32) (6 : Int32) (7 : Int32) y6.toInt8.toInt32 C (by decide) (by decide) (by decide) (by decide) (by decide) (by decide) X159 e159 O162  N159 ?_
  obtain ⟨B7, hB7⟩ : ∃ z, z = ((B6 <<< ((8 : Int32) &&& 31)) ||| (y7.toInt8.toInt32 &&& (255 : Int32))) := ⟨_, rfl⟩
  have vB7 := bufv hB7
  have c163 : AL Z h159 a ka .byte (by8 [y0, y1, y2, y3, y4, y5, y6, y7]) := (AL.keep (AL.keep c154 K157 (ninS ne105 (ninS ne114 nin0))) K159 (ninS ne105 (ninS ne114 nin0)))
  refine sg_in hw a ka b101 B6 B7 (1 : Int32) (9 : Int32) (8 : Int32) (7 : Int32) (Slot.val (.int y6.toInt8.toInt32)) y7 7 (by8 [y0, y1, y2, y3, y4, y5, y6, y7]) C (by decide) (by decide) (by decide) (by decide) (by decide) (by8_get rfl) (One.val rfl) hB7 (by decide) (by decide) (by decide) X159 e159 O162 c163 N159 ?_
  obtain ⟨d11, hd11⟩ : ∃ z, z = (((B7.toUInt32 >>> ((4 : Int32) &&& 31).toUInt32).toInt32) &&& (31 : Int32)) := ⟨_, rfl⟩
  have ud11 := ixv (4 : Int32) 4 16 (by decide) (by decide) (by decide) (by decide) hd11
  have gd11 := c_rng ud11
  have c165 : Exa Z h159 b101 "java/lang/StringBuilder" := (Exa.keep c158 K159)
  refine sg_ch hw a b101 w_103 kw_103 Y11 (16 : Nat) (11 : Nat) (12 : Nat) cP ta tk tb B7 (9 : Int32) (4 : Int32) (8 : Int32) (7 : Int32) y7.toInt8.toInt32 d11 C (by decide) (by decide) (by decide) j159_1 (by decide) rfl hP n_b101 n_w_103 ne109 htb (by decide) (by decide) hd11 gd11 (by decide) (by decide) X159 e159 O162 c165 P159_0 P159_1 P159_2 P159_3 SC ST AT N159 ?_
  intro T166 L166 h166 Y12 X166 e166 K166 j166_0 j166_1 P166_0 P166_1 P166_2 P166_3 N166
  have O168 : Ext Z.heap h166 := (Ext.keep O162 K166 (allS n_b101 (allS n_w_103 all0)))
  refine sg_nx hw a b101 B7 (4 : Int32) (8 : Int32) (7 : Int32) (8 : Int32) y7.toInt8.toInt32 C (by decide) (by decide) (by decide) (by decide) (by decide) (by decide) X166 e166 O168  N166 ?_
  refine Go.iload (pc' := 34) C X166 d9_32 rfl rfl ?_
  refine Go.iload (pc' := 36) C X166 d9_34 rfl rfl ?_
  refine Go.icmpYes (pc' := 93) C X166 d9_36 (flt (x := (8 : Int32)) (y := (8 : Int32)) (by decide)).2.1 (by decide) (by decide) ?_
  obtain ⟨d12, hd12⟩ : ∃ z, z = ((B7 <<< (((5 : Int32) - (4 : Int32)) &&& 31)) &&& (31 : Int32)) := ⟨_, rfl⟩
  have ud12 := ixl ((5 : Int32) - (4 : Int32)) 1 2 (by decide) (by decide) (by decide) hd12
  have gd12 := c_rng ud12
  have c170 : Exa Z h166 b101 "java/lang/StringBuilder" := (Exa.keep c165 K166)
  refine sg_tl hw a b101 w_103 kw_103 Y12 (16 : Nat) (12 : Nat) (13 : Nat) cP ta tk tb B7 (4 : Int32) (8 : Int32) (8 : Int32) y7.toInt8.toInt32 d12 C (by decide) (by decide) (by decide) j166_1 (by decide) rfl hP n_b101 n_w_103 ne109 htb (by decide) hd12 gd12 (by decide) (by decide) X166 e166 O168 c170 P166_0 P166_1 P166_2 P166_3 SC ST AT N166 ?_
  intro T171 L171 h171 Y13 X171 e171 K171 j171_0 j171_1 P171_0 P171_1 P171_2 P171_3 N171
  have c172 : Exa Z h171 b101 "java/lang/StringBuilder" := (Exa.keep c170 K171)
  have O174 : Ext Z.heap h171 := (Ext.keep O168 K171 (allS n_b101 (allS n_w_103 all0)))
  refine sg_pd hw a b101 w_103 kw_103 Y13 (16 : Nat) (13 : Nat) (14 : Nat) cP B7 (4 : Int32) (8 : Int32) (8 : Int32) y7.toInt8.toInt32 C (by decide) (by decide) (by decide) j171_1 (by decide) rfl hP n_b101 n_w_103 ne109 (by decide) (by decide) (by decide) X171 e171 O174 c172 P171_0 P171_1 P171_2 P171_3 SC N171 ?_
  intro T173 L173 h173 Y14 X173 e173 K173 j173_0 j173_1 P173_0 P173_1 P173_2 P173_3 N173
  have c175 : Exa Z h173 b101 "java/lang/StringBuilder" := (Exa.keep c172 K173)
  have O177 : Ext Z.heap h173 := (Ext.keep O174 K173 (allS n_b101 (allS n_w_103 all0)))
  refine sg_pd hw a b101 w_103 kw_103 Y14 (16 : Nat) (14 : Nat) (15 : Nat) cP B7 (4 : Int32) (8 : Int32) (8 : Int32) y7.toInt8.toInt32 C (by decide) (by decide) (by decide) j173_1 (by decide) rfl hP n_b101 n_w_103 ne109 (by decide) (by decide) (by decide) X173 e173 O177 c175 P173_0 P173_1 P173_2 P173_3 SC N173 ?_
  intro T176 L176 h176 Y15 X176 e176 K176 j176_0 j176_1 P176_0 P176_1 P176_2 P176_3 N176
  have c178 : Exa Z h176 b101 "java/lang/StringBuilder" := (Exa.keep c175 K176)
  have O180 : Ext Z.heap h176 := (Ext.keep O177 K176 (allS n_b101 (allS n_w_103 all0)))
  refine sg_pd hw a b101 w_103 kw_103 Y15 (16 : Nat) (15 : Nat) (16 : Nat) cP B7 (4 : Int32) (8 : Int32) (8 : Int32) y7.toInt8.toInt32 C (by decide) (by decide) (by decide) j176_1 (by decide) rfl hP n_b101 n_w_103 ne109 (by decide) (by decide) (by decide) X176 e176 O180 c178 P176_0 P176_1 P176_2 P176_3 SC N176 ?_
  intro T179 L179 h179 Y16 X179 e179 K179 j179_0 j179_1 P179_0 P179_1 P179_2 P179_3 N179
  refine Go.aloadN (pc' := 115) C X179 d9_114 rfl rfl rfl ?_
  have c182 : Exa Z h179 b101 "java/lang/StringBuilder" := (Exa.keep c178 K179)
  have O183 : Ext Z.heap h179 := (Ext.keep O180 K179 (allS n_b101 (allS n_w_103 all0)))
  refine Go.callV (y := mN22) (z := mN22) (a := b101) (pc' := 118) C X179 (tw hw 63 rfl) (tw hw 64 rfl) (notFace_at C.2.1 (tw hw 66 rfl)) (tw hw 66 rfl) (tw hw 65 rfl) c182 (by decide) (rm_sbl l Z a0 hw b101 ((16 : Nat).toInt32) h179 O183 c182 P179_2) (tw hw 67 rfl) (tw hw 45 rfl) e179 (argsL := []) (rest := []) (W := 0) rfl rfl pd_6 rfl (Nat.le_of_eq rfl) rfl (by decide) (by decide) (by decide) (by decide) d9_115 rfl ?_
  intro T181 v181 L181 X181 q181
  obtain ⟨rfl, rfl, e181⟩ := q181
  have N181 := Fr.app N179 (Fr.nil _)
  rw [show (16 : Nat).toInt32 = (16 : Int32) from rfl]
  refine Go.bipush (z := (8 : Int32)) (pc' := 120) C X181 d9_118 rfl rfl ?_
  refine Go.irem (pc' := 121) C X181 d9_120 (by decide) rfl ?_
  rw [show ((16 : Int32) % (8 : Int32)) = (0 : Int32) from by decide]
  refine Go.ifYes (pc' := 134) C X181 d9_121 ((if0 _ _).trans (teq (x := (0 : Int32)) (y := (0 : Int32)) (by decide)).1) (by decide) (by decide) ?_
  have ctE : Fld Z h179 b101 "java/lang/AbstractStringBuilder" "count" "I" (.int Y16.length.toInt32) := by rw [j179_1]; exact P179_2
  refine Go.aloadN (pc' := 135) C X181 d9_134 rfl rfl rfl ?_
  have c186 : Exa Z h179 w_103 "[B" := (Exa.keep (Exa.keep (Exa.keep (Exa.keep (Exa.keep (Exa.keep (Exa.keep (Exa.keep (Exa.keep (Exa.keep (Exa.keep (Exa.keep (Exa.keep (Exa.keep (Exa.keep (Exa.keep P103_3 K111) K118) K120) K127) K133) K135) K142) K144) K151) K157) K159) K166) K171) K173) K176) K179)
  refine Go.callV (y := mN23) (z := mN23) (a := b101) (pc' := 138) C X181 (tw hw 75 rfl) (tw hw 76 rfl) (notFace_at C.2.1 (tw hw 78 rfl)) (tw hw 78 rfl) (tw hw 77 rfl) c182 (by decide) (rm_tos l Z a0 hw b101 w_103 kw_103 Y16 cP h179 O183 c182 P179_0 P179_1 ctE c186 P179_3 SC (by rw [j179_1]; decide) hP) (tw hw 79 rfl) (tw hw 45 rfl) e181 (argsL := []) (rest := []) (W := 0) rfl rfl pd_18 rfl (Nat.le_of_eq rfl) rfl (by decide) (by decide) (by decide) (by decide) d9_135 rfl ?_
  intro T185 v185 L185 X185 q185
  obtain ⟨s1_185, v_185, kv_185, rfl, N185q, K185, B185_0, B185_1, P185_0, P185_1, P185_2, P185_3⟩ := q185
  have N185 := Fr.app N181 N185q
  have n_s1_185 : Z.heap.size ≤ s1_185 := Nat.le_trans O183.1 B185_0
  have z_s1_185 : h0.size ≤ s1_185 := Nat.le_trans (Nat.le_trans (Nat.le_trans (Nat.le_trans (Nat.le_trans (Nat.le_trans (Nat.le_trans (Nat.le_trans (Nat.le_trans (Nat.le_trans (Nat.le_trans (Nat.le_trans (Nat.le_trans (Nat.le_trans (Nat.le_trans (Nat.le_trans (Nat.le_trans (Nat.le_trans (Nat.le_trans (Nat.le_refl _) E101.1) K103.1) K111.1) K118.1) K120.1) K127.1) K133.1) K135.1) K142.1) K144.1) K151.1) K157.1) K159.1) K166.1) K171.1) K173.1) K176.1) K179.1) B185_0
  have n_v_185 : Z.heap.size ≤ v_185 := Nat.le_trans O183.1 B185_1
  have z_v_185 : h0.size ≤ v_185 := Nat.le_trans (Nat.le_trans (Nat.le_trans (Nat.le_trans (Nat.le_trans (Nat.le_trans (Nat.le_trans (Nat.le_trans (Nat.le_trans (Nat.le_trans (Nat.le_trans (Nat.le_trans (Nat.le_trans (Nat.le_trans (Nat.le_trans (Nat.le_trans (Nat.le_trans (Nat.le_trans (Nat.le_trans (Nat.le_refl _) E101.1) K103.1) K111.1) K118.1) K120.1) K127.1) K133.1) K135.1) K142.1) K144.1) K151.1) K157.1) K159.1) K166.1) K171.1) K173.1) K176.1) K179.1) B185_1
  have K187 : Keep h0 T185.heap [] := ((((((((((((((((((((Keep.refl h0 []).ext E101).trans K103 (allS (Or.inr z_b101) all0)).trans K111 (allS (Or.inr z_b101) (allS (Or.inr z_w_103) all0))).trans K118 (allS (Or.inr z_b101) (allS (Or.inr z_w_103) all0))).trans K120 (allS (Or.inr z_b101) (allS (Or.inr z_w_103) all0))).trans K127 (allS (Or.inr z_b101) (allS (Or.inr z_w_103) all0))).trans K133 (allS (Or.inr z_b101) (allS (Or.inr z_w_103) all0))).trans K135 (allS (Or.inr z_b101) (allS (Or.inr z_w_103) all0))).trans K142 (allS (Or.inr z_b101) (allS (Or.inr z_w_103) all0))).trans K144 (allS (Or.inr z_b101) (allS (Or.inr z_w_103) all0))).trans K151 (allS (Or.inr z_b101) (allS (Or.inr z_w_103) all0))).trans K157 (allS (Or.inr z_b101) (allS (Or.inr z_w_103) all0))).trans K159 (allS (Or.inr z_b101) (allS (Or.inr z_w_103) all0))).trans K166 (allS (Or.inr z_b101) (allS (Or.inr z_w_103) all0))).trans K171 (allS (Or.inr z_b101) (allS (Or.inr z_w_103) all0))).trans K173 (allS (Or.inr z_b101) (allS (Or.inr z_w_103) all0))).trans K176 (allS (Or.inr z_b101) (allS (Or.inr z_w_103) all0))).trans K179 (allS (Or.inr z_b101) (allS (Or.inr z_w_103) all0))).trans K185 all0)
  exact Go.retA C X185 rfl d9_138 rfl rfl rfl ⟨s1_185, v_185, kv_185, d0, d1, d2, d3, d4, d5, d6, d7, d8, d9, d10, d11, d12, rfl, N185, K187, z_s1_185, z_v_185, P185_0, P185_1, P185_2, (by have q := P185_3; rw [j179_0, j176_0, j173_0, j171_0, j166_0, j159_0, j157_0, j151_0, j144_0, j142_0, j135_0, j133_0, j127_0, j120_0, j118_0, j111_0] at q; exact q), (qv ud0 vB0 p0z), (qv ud1 vB1 (bufw vB0)), (qv ud2 vB1 (bufw vB0)), (qv ud3 vB2 (bufw vB1)), (qv ud4 vB3 (bufw vB2)), (qv ud5 vB3 (bufw vB2)), (qv ud6 vB4 (bufw vB3)), (qv ud7 vB4 (bufw vB3)), (qv ud8 vB5 (bufw vB4)), (qv ud9 vB6 (bufw vB5)), (qv ud10 vB6 (bufw vB5)), (qv ud11 vB7 (bufw vB6)), (ql ud12 vB7)⟩ (by decide) (by decide)
def Q_b32_9 (Z : State) (a : Addr) (ka : ClassId) (cP : Int32) (ta : Addr) (tk : ClassId) (tb : List Value) (y0 : Int32) (y1 : Int32) (y2 : Int32) (y3 : Int32) (y4 : Int32) (y5 : Int32) (y6 : Int32) (y7 : Int32) (y8 : Int32) (h0 : Heap) (rv : Option Value) (h : Heap) (L : List Loc) : Prop := ∃ s1 : Addr, ∃ v : Addr, ∃ kv : ClassId, ∃ c0 : Int32, ∃ c1 : Int32, ∃ c2 : Int32, ∃ c3 : Int32, ∃ c4 : Int32, ∃ c5 : Int32, ∃ c6 : Int32, ∃ c7 : Int32, ∃ c8 : Int32, ∃ c9 : Int32, ∃ c10 : Int32, ∃ c11 : Int32, ∃ c12 : Int32, ∃ c13 : Int32, ∃ c14 : Int32, rv = some (.ref s1) ∧ Fr Z.heap.size L ∧ Keep h0 h [] ∧ h0.size ≤ s1 ∧ h0.size ≤ v ∧ Exa Z h s1 "java/lang/String" ∧ Fld Z h s1 "java/lang/String" "value" "[B" (.ref v) ∧ Fld Z h s1 "java/lang/String" "coder" "B" (.int (0 : Int32)) ∧ AL Z h v kv .byte (by8 [(alf c0), (alf c1), (alf c2), (alf c3), (alf c4), (alf c5), (alf c6), (alf c7), (alf c8), (alf c9), (alf c10), (alf c11), (alf c12), (alf c13), (alf c14), 61]) ∧ (c0.toInt = ((0) * 256 + y0.toInt % 256) / 8 % 32) ∧ (c1.toInt = ((y0.toInt % 16) * 256 + y1.toInt % 256) / 64 % 32) ∧ (c2.toInt = ((y0.toInt % 16) * 256 + y1.toInt % 256) / 2 % 32) ∧ (c3.toInt = ((y1.toInt % 16) * 256 + y2.toInt % 256) / 16 % 32) ∧ (c4.toInt = ((y2.toInt % 16) * 256 + y3.toInt % 256) / 128 % 32) ∧ (c5.toInt = ((y2.toInt % 16) * 256 + y3.toInt % 256) / 4 % 32) ∧ (c6.toInt = ((y3.toInt % 16) * 256 + y4.toInt % 256) / 32 % 32) ∧ (c7.toInt = ((y3.toInt % 16) * 256 + y4.toInt % 256) / 1 % 32) ∧ (c8.toInt = ((y4.toInt % 16) * 256 + y5.toInt % 256) / 8 % 32) ∧ (c9.toInt = ((y5.toInt % 16) * 256 + y6.toInt % 256) / 64 % 32) ∧ (c10.toInt = ((y5.toInt % 16) * 256 + y6.toInt % 256) / 2 % 32) ∧ (c11.toInt = ((y6.toInt % 16) * 256 + y7.toInt % 256) / 16 % 32) ∧ (c12.toInt = ((y7.toInt % 16) * 256 + y8.toInt % 256) / 128 % 32) ∧ (c13.toInt = ((y7.toInt % 16) * 256 + y8.toInt % 256) / 4 % 32) ∧ (c14.toInt = (y8.toInt % 256) * 8 % 32)
theorem rm_b32_9 (l : Launch) (Z : State) (a0 : Array Value) (hw : ∀ d ∈ tables_1, d.before a0 Z = true) (a : Addr) (ka : ClassId) (cP : Int32) (ta : Addr) (tk : ClassId) (tb : List Value) (y0 : Int32) (y1 : Int32) (y2 : Int32) (y3 : Int32) (y4 : Int32) (y5 : Int32) (y6 : Int32) (y7 : Int32) (y8 : Int32) (h0 : Heap) (O0 : Ext Z.heap h0) (A0 : AL Z h0 a ka .byte (by8 [y0, y1, y2, y3, y4, y5, y6, y7, y8])) (SC : Sta Z Z.heap "java/lang/String" "COMPACT_STRINGS" "Z" (.int cP)) (ST : Sta Z Z.heap "com/example/barrault/barrault/io/WarcDigest" "BASE32" "[C" (.ref ta)) (AT : AL Z Z.heap ta tk .char tb) (hP : ¬ cP = (0 : Int32)) (htb : ∀ c : Int32, 0 ≤ c.toInt → c.toInt < 32 → tb[c.toNatClampNeg]? = some (.int (alf c))) :
    Met1 l Z mN0 prog_23_method_5_code 8 (some (.object "java/lang/String")) ({ frames := 5, cells := 4, slots := 40, locals := 71 } : Room) #[(.ref a)] h0 (Q_b32_9 Z a ka cP ta tk tb y0 y1 y2 y3 y4 y5 y6 y7 y8 h0) := by
  refine Met1.of_body (Ls := #[.val (.ref a), .unset, .unset, .unset, .unset, .unset, .unset, .unset]) pf_9 (fun m => by first | (simp [entryFrame, mkF, argsToLocals, Value.category]; done) | rfl) ?_
  intro p e s m below meth c T0 C X0 e0
  have N0 : Fr Z.heap.size [] := Fr.nil _
  refine Go.newO (pc' := 3) C X0 (tw hw 43 rfl) (tw hw 44 rfl) (tw hw 45 rfl) e0 (by decide) (by decide) d9_0 rfl ?_
  intro T101 h101 b101 X101 e101 g101 E101 A101 D101
  have n_b101 : Z.heap.size ≤ b101 := Nat.le_trans O0.1 (Nat.le_of_eq g101.symm)
  have z_b101 : h0.size ≤ b101 := Nat.le_trans (Nat.le_refl _) (Nat.le_of_eq g101.symm)
  have F101_value : Fld Z h101 b101 "java/lang/AbstractStringBuilder" "value" "[B" .null := D101 (Or.inl (tw hw 60 rfl)) (ty := (.array .byte)) (by decide)
  have F101_coder : Fld Z h101 b101 "java/lang/AbstractStringBuilder" "coder" "B" (.int (0 : Int32)) := D101 (Or.inl (tw hw 62 rfl)) (ty := .byte) (by decide)
  have F101_count : Fld Z h101 b101 "java/lang/AbstractStringBuilder" "count" "I" (.int (0 : Int32)) := D101 (Or.inl (tw hw 74 rfl)) (ty := .int) (by decide)
  refine Go.dup (pc' := 4) C X101 d9_3 rfl rfl ?_
  refine Go.aloadN (pc' := 5) C X101 d9_4 rfl rfl rfl ?_
  have c102 : AL Z h101 a ka .byte (by8 [y0, y1, y2, y3, y4, y5, y6, y7, y8]) := (AL.ext E101 A0)
  refine Go.alen (z := (9 : Int32)) (pc' := 6) C X101 e101 c102 (by rw [by8_len]; rfl) d9_5 rfl ?_
  refine Go.iconst (z := (4 : Int32)) (pc' := 7) C X101 d9_6 rfl rfl ?_
  refine Go.iadd (pc' := 8) C X101 d9_7 rfl ?_
  rw [show ((9 : Int32) + (4 : Int32)) = (13 : Int32) from by decide]
  refine Go.iconst (z := (5 : Int32)) (pc' := 9) C X101 d9_8 rfl rfl ?_
  refine Go.idiv (pc' := 10) C X101 d9_9 (by decide) rfl ?_
  refine Go.bipush (z := (8 : Int32)) (pc' := 12) C X101 d9_10 rfl rfl ?_
  refine Go.imul (pc' := 13) C X101 d9_12 rfl ?_
  rw [show (((13 : Int32) / (5 : Int32)) * (8 : Int32)) = (16 : Nat).toInt32 from by decide]
  have O104 : Ext Z.heap h101 := (Ext.trans O0 E101)
  refine Go.callI (y := mN20) (a := b101) (pc' := 16) C X101 rfl (tw hw 46 rfl) (tw hw 47 rfl) (by decide) (rm_sbI l Z a0 hw b101 ((16 : Nat)) cP h101 O104 A101 F101_value F101_coder F101_count SC n_b101 hP (by decide)) (tw hw 48 rfl) (tw hw 45 rfl) e101 (argsL := [(.int (16 : Nat).toInt32)]) (rest := [(.ref b101)]) (W := 1) rfl rfl pd_5 rfl (Nat.le_of_eq rfl) rfl (by decide) (by decide) (by decide) (by decide) rfl d9_13 rfl ?_
  intro T103 v103 L103 X103 q103
  obtain ⟨w_103, kw_103, rfl, N103q, K103, B103_0, P103_0, P103_1, P103_2, P103_3, P103_4⟩ := q103
  have N103 := Fr.app N0 N103q
  have n_w_103 : Z.heap.size ≤ w_103 := Nat.le_trans O104.1 B103_0
  have z_w_103 : h0.size ≤ w_103 := Nat.le_trans (Nat.le_trans (Nat.le_refl _) E101.1) B103_0
  refine Go.astoreN (Ls' := #[.val (.ref a), .val (.ref b101), .unset, .unset, .unset, .unset, .unset, .unset]) (pc' := 17) C X103 d9_16 rfl rfl rfl ?_
  refine Go.iconst (z := (0 : Int32)) (pc' := 18) C X103 d9_17 rfl rfl ?_
  refine Go.istoreN (Ls' := #[.val (.ref a), .val (.ref b101), .val (.int (0 : Int32)), .unset, .unset, .unset, .unset, .unset]) (pc' := 19) C X103 d9_18 rfl rfl ?_
  refine Go.iconst (z := (0 : Int32)) (pc' := 20) C X103 d9_19 rfl rfl ?_
  refine Go.istoreN (Ls' := #[.val (.ref a), .val (.ref b101), .val (.int (0 : Int32)), .val (.int (0 : Int32)), .unset, .unset, .unset, .unset]) (pc' := 21) C X103 d9_20 rfl rfl ?_
  refine Go.aloadN (pc' := 22) C X103 d9_21 rfl rfl rfl ?_
  refine Go.astore (Ls' := #[.val (.ref a), .val (.ref b101), .val (.int (0 : Int32)), .val (.int (0 : Int32)), .val (.ref a), .unset, .unset, .unset]) (pc' := 24) C X103 d9_22 rfl rfl rfl ?_
  refine Go.aload (pc' := 26) C X103 d9_24 rfl rfl rfl ?_
  have ne105 : a ≠ b101 := Nat.ne_of_lt (Nat.lt_of_lt_of_le A0.lt (Nat.le_trans (Nat.le_refl _) (Nat.le_of_eq g101.symm)))
  have c106 : AL Z T103.heap a ka .byte (by8 [y0, y1, y2, y3, y4, y5, y6, y7, y8]) := (AL.keep c102 K103 (ninS ne105 nin0))
  refine Go.alen (z := (9 : Int32)) (pc' := 27) C X103 rfl c106 (by rw [by8_len]; rfl) d9_26 rfl ?_
  refine Go.istore (Ls' := #[.val (.ref a), .val (.ref b101), .val (.int (0 : Int32)), .val (.int (0 : Int32)), .val (.ref a), .val (.int (9 : Int32)), .unset, .unset]) (pc' := 29) C X103 d9_27 rfl rfl ?_
  refine Go.iconst (z := (0 : Int32)) (pc' := 30) C X103 d9_29 rfl rfl ?_
  refine Go.istore (Ls' := #[.val (.ref a), .val (.ref b101), .val (.int (0 : Int32)), .val (.int (0 : Int32)), .val (.ref a), .val (.int (9 : Int32)), .val (.int (0 : Int32)), .unset]) (pc' := 32) C X103 d9_30 rfl rfl ?_
  obtain ⟨B0, hB0⟩ : ∃ z, z = (((0 : Int32) <<< ((8 : Int32) &&& 31)) ||| (y0.toInt8.toInt32 &&& (255 : Int32))) := ⟨_, rfl⟩
  have vB0 := bufv hB0
  have O108 : Ext Z.heap T103.heap := (Ext.keep O104 K103 (allS n_b101 all0))
  refine sg_in hw a ka b101 (0 : Int32) B0 (0 : Int32) (8 : Int32) (9 : Int32) (0 : Int32) Slot.unset y0 0 (by8 [y0, y1, y2, y3, y4, y5, y6, y7, y8]) C (by decide) (by decide) (by decide) (by decide) (by decide) (by8_get rfl) One.u hB0 (by decide) (by decide) (by decide) X103 rfl O108 c106 N103 ?_
  obtain ⟨d0, hd0⟩ : ∃ z, z = (((B0.toUInt32 >>> ((3 : Int32) &&& 31).toUInt32).toInt32) &&& (31 : Int32)) := ⟨_, rfl⟩
  have ud0 := ixv (3 : Int32) 3 8 (by decide) (by decide) (by decide) (by decide) hd0
  have gd0 := c_rng ud0
  have lY0 : ((List.replicate (16 : Nat) 0) : List Int32).length = 16 := by simp
  have ct0 : Fld Z T103.heap b101 "java/lang/AbstractStringBuilder" "count" "I" (.int (0 : Nat).toInt32) := P103_2
  have ne109 : b101 ≠ w_103 := Nat.ne_of_lt (Nat.lt_of_lt_of_le A101.lt (Nat.le_trans (Nat.le_refl _) B103_0))
  have c110 : Exa Z T103.heap b101 "java/lang/StringBuilder" := (Exa.keep A101 K103)
  refine sg_ch hw a b101 w_103 kw_103 (List.replicate (16 : Nat) 0) (16 : Nat) (0 : Nat) (1 : Nat) cP ta tk tb B0 (8 : Int32) (3 : Int32) (9 : Int32) (0 : Int32) y0.toInt8.toInt32 d0 C (by decide) (by decide) (by decide) lY0 (by decide) rfl hP n_b101 n_w_103 ne109 htb (by decide) (by decide) hd0 gd0 (by decide) (by decide) X103 rfl O108 c110 P103_0 P103_1 ct0 P103_4 SC ST AT N103 ?_
  intro T111 L111 h111 Y1 X111 e111 K111 j111_0 j111_1 P111_0 P111_1 P111_2 P111_3 N111
  have O113 : Ext Z.heap h111 := (Ext.keep O108 K111 (allS n_b101 (allS n_w_103 all0)))
  refine sg_nx hw a b101 B0 (3 : Int32) (9 : Int32) (0 : Int32) (1 : Int32) y0.toInt8.toInt32 C (by decide) (by decide) (by decide) (by decide) (by decide) (by decide) X111 e111 O113  N111 ?_
  obtain ⟨B1, hB1⟩ : ∃ z, z = ((B0 <<< ((8 : Int32) &&& 31)) ||| (y1.toInt8.toInt32 &&& (255 : Int32))) := ⟨_, rfl⟩
  have vB1 := bufv hB1
  have ne114 : a ≠ w_103 := Nat.ne_of_lt (Nat.lt_of_lt_of_le A0.lt (Nat.le_trans (Nat.le_trans (Nat.le_refl _) E101.1) B103_0))
  have c115 : AL Z h111 a ka .byte (by8 [y0, y1, y2, y3, y4, y5, y6, y7, y8]) := (AL.keep c106 K111 (ninS ne105 (ninS ne114 nin0)))
  refine sg_in hw a ka b101 B0 B1 (3 : Int32) (11 : Int32) (9 : Int32) (1 : Int32) (Slot.val (.int y0.toInt8.toInt32)) y1 1 (by8 [y0, y1, y2, y3, y4, y5, y6, y7, y8]) C (by decide) (by decide) (by decide) (by decide) (by decide) (by8_get rfl) (One.val rfl) hB1 (by decide) (by decide) (by decide) X111 e111 O113 c115 N111 ?_
  obtain ⟨d1, hd1⟩ : ∃ z, z = (((B1.toUInt32 >>> ((6 : Int32) &&& 31).toUInt32).toInt32) &&& (31 : Int32)) := ⟨_, rfl⟩
  have ud1 := ixv (6 : Int32) 6 64 (by decide) (by decide) (by decide) (by decide) hd1
  have gd1 := c_rng ud1
  have c117 : Exa Z h111 b101 "java/lang/StringBuilder" := (Exa.keep c110 K111)
  refine sg_ch hw a b101 w_103 kw_103 Y1 (16 : Nat) (1 : Nat) (2 : Nat) cP ta tk tb B1 (11 : Int32) (6 : Int32) (9 : Int32) (1 : Int32) y1.toInt8.toInt32 d1 C (by decide) (by decide) (by decide) j111_1 (by decide) rfl hP n_b101 n_w_103 ne109 htb (by decide) (by decide) hd1 gd1 (by decide) (by decide) X111 e111 O113 c117 P111_0 P111_1 P111_2 P111_3 SC ST AT N111 ?_
  intro T118 L118 h118 Y2 X118 e118 K118 j118_0 j118_1 P118_0 P118_1 P118_2 P118_3 N118
  obtain ⟨d2, hd2⟩ : ∃ z, z = (((B1.toUInt32 >>> ((1 : Int32) &&& 31).toUInt32).toInt32) &&& (31 : Int32)) := ⟨_, rfl⟩
  have ud2 := ixv (1 : Int32) 1 2 (by decide) (by decide) (by decide) (by decide) hd2
  have gd2 := c_rng ud2
  have c119 : Exa Z h118 b101 "java/lang/StringBuilder" := (Exa.keep c117 K118)
  have O121 : Ext Z.heap h118 := (Ext.keep O113 K118 (allS n_b101 (allS n_w_103 all0)))
  refine sg_ch hw a b101 w_103 kw_103 Y2 (16 : Nat) (2 : Nat) (3 : Nat) cP ta tk tb B1 (6 : Int32) (1 : Int32) (9 : Int32) (1 : Int32) y1.toInt8.toInt32 d2 C (by decide) (by decide) (by decide) j118_1 (by decide) rfl hP n_b101 n_w_103 ne109 htb (by decide) (by decide) hd2 gd2 (by decide) (by decide) X118 e118 O121 c119 P118_0 P118_1 P118_2 P118_3 SC ST AT N118 ?_
  intro T120 L120 h120 Y3 X120 e120 K120 j120_0 j120_1 P120_0 P120_1 P120_2 P120_3 N120
  have O123 : Ext Z.heap h120 := (Ext.keep O121 K120 (allS n_b101 (allS n_w_103 all0)))
  refine sg_nx hw a b101 B1 (1 : Int32) (9 : Int32) (1 : Int32) (2 : Int32) y1.toInt8.toInt32 C (by decide) (by decide) (by decide) (by decide) (by decide) (by decide) X120 e120 O123  N120 ?_
  obtain ⟨B2, hB2⟩ : ∃ z, z = ((B1 <<< ((8 : Int32) &&& 31)) ||| (y2.toInt8.toInt32 &&& (255 : Int32))) := ⟨_, rfl⟩
  have vB2 := bufv hB2
  have c124 : AL Z h120 a ka .byte (by8 [y0, y1, y2, y3, y4, y5, y6, y7, y8]) := (AL.keep (AL.keep c115 K118 (ninS ne105 (ninS ne114 nin0))) K120 (ninS ne105 (ninS ne114 nin0)))
  refine sg_in hw a ka b101 B1 B2 (1 : Int32) (9 : Int32) (9 : Int32) (2 : Int32) (Slot.val (.int y1.toInt8.toInt32)) y2 2 (by8 [y0, y1, y2, y3, y4, y5, y6, y7, y8]) C (by decide) (by decide) (by decide) (by decide) (by decide) (by8_get rfl) (One.val rfl) hB2 (by decide) (by decide) (by decide) X120 e120 O123 c124 N120 ?_
  obtain ⟨d3, hd3⟩ : ∃ z, z = (((B2.toUInt32 >>> ((4 : Int32) &&& 31).toUInt32).toInt32) &&& (31 : Int32)) := ⟨_, rfl⟩
  have ud3 := ixv (4 : Int32) 4 16 (by decide) (by decide) (by decide) (by decide) hd3
  have gd3 := c_rng ud3
  have c126 : Exa Z h120 b101 "java/lang/StringBuilder" := (Exa.keep c119 K120)
  refine sg_ch hw a b101 w_103 kw_103 Y3 (16 : Nat) (3 : Nat) (4 : Nat) cP ta tk tb B2 (9 : Int32) (4 : Int32) (9 : Int32) (2 : Int32) y2.toInt8.toInt32 d3 C (by decide) (by decide) (by decide) j120_1 (by decide) rfl hP n_b101 n_w_103 ne109 htb (by decide) (by decide) hd3 gd3 (by decide) (by decide) X120 e120 O123 c126 P120_0 P120_1 P120_2 P120_3 SC ST AT N120 ?_
  intro T127 L127 h127 Y4 X127 e127 K127 j127_0 j127_1 P127_0 P127_1 P127_2 P127_3 N127
  have O129 : Ext Z.heap h127 := (Ext.keep O123 K127 (allS n_b101 (allS n_w_103 all0)))
  refine sg_nx hw a b101 B2 (4 : Int32) (9 : Int32) (2 : Int32) (3 : Int32) y2.toInt8.toInt32 C (by decide) (by decide) (by decide) (by decide) (by decide) (by decide) X127 e127 O129  N127 ?_
  obtain ⟨B3, hB3⟩ : ∃ z, z = ((B2 <<< ((8 : Int32) &&& 31)) ||| (y3.toInt8.toInt32 &&& (255 : Int32))) := ⟨_, rfl⟩
  have vB3 := bufv hB3
  have c130 : AL Z h127 a ka .byte (by8 [y0, y1, y2, y3, y4, y5, y6, y7, y8]) := (AL.keep c124 K127 (ninS ne105 (ninS ne114 nin0)))
  refine sg_in hw a ka b101 B2 B3 (4 : Int32) (12 : Int32) (9 : Int32) (3 : Int32) (Slot.val (.int y2.toInt8.toInt32)) y3 3 (by8 [y0, y1, y2, y3, y4, y5, y6, y7, y8]) C (by decide) (by decide) (by decide) (by decide) (by decide) (by8_get rfl) (One.val rfl) hB3 (by decide) (by decide) (by decide) X127 e127 O129 c130 N127 ?_
  obtain ⟨d4, hd4⟩ : ∃ z, z = (((B3.toUInt32 >>> ((7 : Int32) &&& 31).toUInt32).toInt32) &&& (31 : Int32)) := ⟨_, rfl⟩
  have ud4 := ixv (7 : Int32) 7 128 (by decide) (by decide) (by decide) (by decide) hd4
  have gd4 := c_rng ud4
  have c132 : Exa Z h127 b101 "java/lang/StringBuilder" := (Exa.keep c126 K127)
  refine sg_ch hw a b101 w_103 kw_103 Y4 (16 : Nat) (4 : Nat) (5 : Nat) cP ta tk tb B3 (12 : Int32) (7 : Int32) (9 : Int32) (3 : Int32) y3.toInt8.toInt32 d4 C (by decide) (by decide) (by decide) j127_1 (by decide) rfl hP n_b101 n_w_103 ne109 htb (by decide) (by decide) hd4 gd4 (by decide) (by decide) X127 e127 O129 c132 P127_0 P127_1 P127_2 P127_3 SC ST AT N127 ?_
  intro T133 L133 h133 Y5 X133 e133 K133 j133_0 j133_1 P133_0 P133_1 P133_2 P133_3 N133
  obtain ⟨d5, hd5⟩ : ∃ z, z = (((B3.toUInt32 >>> ((2 : Int32) &&& 31).toUInt32).toInt32) &&& (31 : Int32)) := ⟨_, rfl⟩
  have ud5 := ixv (2 : Int32) 2 4 (by decide) (by decide) (by decide) (by decide) hd5
  have gd5 := c_rng ud5
  have c134 : Exa Z h133 b101 "java/lang/StringBuilder" := (Exa.keep c132 K133)
  have O136 : Ext Z.heap h133 := (Ext.keep O129 K133 (allS n_b101 (allS n_w_103 all0)))
  refine sg_ch hw a b101 w_103 kw_103 Y5 (16 : Nat) (5 : Nat) (6 : Nat) cP ta tk tb B3 (7 : Int32) (2 : Int32) (9 : Int32) (3 : Int32) y3.toInt8.toInt32 d5 C (by decide) (by decide) (by decide) j133_1 (by decide) rfl hP n_b101 n_w_103 ne109 htb (by decide) (by decide) hd5 gd5 (by decide) (by decide) X133 e133 O136 c134 P133_0 P133_1 P133_2 P133_3 SC ST AT N133 ?_
  intro T135 L135 h135 Y6 X135 e135 K135 j135_0 j135_1 P135_0 P135_1 P135_2 P135_3 N135
  have O138 : Ext Z.heap h135 := (Ext.keep O136 K135 (allS n_b101 (allS n_w_103 all0)))
  refine sg_nx hw a b101 B3 (2 : Int32) (9 : Int32) (3 : Int32) (4 : Int32) y3.toInt8.toInt32 C (by decide) (by decide) (by decide) (by decide) (by decide) (by decide) X135 e135 O138  N135 ?_
  obtain ⟨B4, hB4⟩ : ∃ z, z = ((B3 <<< ((8 : Int32) &&& 31)) ||| (y4.toInt8.toInt32 &&& (255 : Int32))) := ⟨_, rfl⟩
  have vB4 := bufv hB4
  have c139 : AL Z h135 a ka .byte (by8 [y0, y1, y2, y3, y4, y5, y6, y7, y8]) := (AL.keep (AL.keep c130 K133 (ninS ne105 (ninS ne114 nin0))) K135 (ninS ne105 (ninS ne114 nin0)))
  refine sg_in hw a ka b101 B3 B4 (2 : Int32) (10 : Int32) (9 : Int32) (4 : Int32) (Slot.val (.int y3.toInt8.toInt32)) y4 4 (by8 [y0, y1, y2, y3, y4, y5, y6, y7, y8]) C (by decide) (by decide) (by decide) (by decide) (by decide) (by8_get rfl) (One.val rfl) hB4 (by decide) (by decide) (by decide) X135 e135 O138 c139 N135 ?_
  obtain ⟨d6, hd6⟩ : ∃ z, z = (((B4.toUInt32 >>> ((5 : Int32) &&& 31).toUInt32).toInt32) &&& (31 : Int32)) := ⟨_, rfl⟩
  have ud6 := ixv (5 : Int32) 5 32 (by decide) (by decide) (by decide) (by decide) hd6
  have gd6 := c_rng ud6
  have c141 : Exa Z h135 b101 "java/lang/StringBuilder" := (Exa.keep c134 K135)
  refine sg_ch hw a b101 w_103 kw_103 Y6 (16 : Nat) (6 : Nat) (7 : Nat) cP ta tk tb B4 (10 : Int32) (5 : Int32) (9 : Int32) (4 : Int32) y4.toInt8.toInt32 d6 C (by decide) (by decide) (by decide) j135_1 (by decide) rfl hP n_b101 n_w_103 ne109 htb (by decide) (by decide) hd6 gd6 (by decide) (by decide) X135 e135 O138 c141 P135_0 P135_1 P135_2 P135_3 SC ST AT N135 ?_
  intro T142 L142 h142 Y7 X142 e142 K142 j142_0 j142_1 P142_0 P142_1 P142_2 P142_3 N142
  obtain ⟨d7, hd7⟩ : ∃ z, z = (((B4.toUInt32 >>> ((0 : Int32) &&& 31).toUInt32).toInt32) &&& (31 : Int32)) := ⟨_, rfl⟩
  have ud7 := ixv0 hd7
  have gd7 := c_rng ud7
  have c143 : Exa Z h142 b101 "java/lang/StringBuilder" := (Exa.keep c141 K142)
  have O145 : Ext Z.heap h142 := (Ext.keep O138 K142 (allS n_b101 (allS n_w_103 all0)))
  refine sg_ch hw a b101 w_103 kw_103 Y7 (16 : Nat) (7 : Nat) (8 : Nat) cP ta tk tb B4 (5 : Int32) (0 : Int32) (9 : Int32) (4 : Int32) y4.toInt8.toInt32 d7 C (by decide) (by decide) (by decide) j142_1 (by decide) rfl hP n_b101 n_w_103 ne109 htb (by decide) (by decide) hd7 gd7 (by decide) (by decide) X142 e142 O145 c143 P142_0 P142_1 P142_2 P142_3 SC ST AT N142 ?_
  intro T144 L144 h144 Y8 X144 e144 K144 j144_0 j144_1 P144_0 P144_1 P144_2 P144_3 N144
  have O147 : Ext Z.heap h144 := (Ext.keep O145 K144 (allS n_b101 (allS n_w_103 all0)))
  refine sg_nx hw a b101 B4 (0 : Int32) (9 : Int32) (4 : Int32) (5 : Int32) y4.toInt8.toInt32 C (by decide) (by decide) (by decide) (by decide) (by decide) (by decide) X144 e144 O147  N144 ?_
  obtain ⟨B5, hB5⟩ : ∃ z, z = ((B4 <<< ((8 : Int32) &&& 31)) ||| (y5.toInt8.toInt32 &&& (255 : Int32))) := ⟨_, rfl⟩
  have vB5 := bufv hB5
  have c148 : AL Z h144 a ka .byte (by8 [y0, y1, y2, y3, y4, y5, y6, y7, y8]) := (AL.keep (AL.keep c139 K142 (ninS ne105 (ninS ne114 nin0))) K144 (ninS ne105 (ninS ne114 nin0)))
  refine sg_in hw a ka b101 B4 B5 (0 : Int32) (8 : Int32) (9 : Int32) (5 : Int32) (Slot.val (.int y4.toInt8.toInt32)) y5 5 (by8 [y0, y1, y2, y3, y4, y5, y6, y7, y8]) C (by decide) (by decide) (by decide) (by decide) (by decide) (by8_get rfl) (One.val rfl) hB5 (by decide) (by decide) (by decide) X144 e144 O147 c148 N144 ?_
  obtain ⟨d8, hd8⟩ : ∃ z, z = (((B5.toUInt32 >>> ((3 : Int32) &&& 31).toUInt32).toInt32) &&& (31 : Int32)) := ⟨_, rfl⟩
  have ud8 := ixv (3 : Int32) 3 8 (by decide) (by decide) (by decide) (by decide) hd8
  have gd8 := c_rng ud8
  have c150 : Exa Z h144 b101 "java/lang/StringBuilder" := (Exa.keep c143 K144)
  refine sg_ch hw a b101 w_103 kw_103 Y8 (16 : Nat) (8 : Nat) (9 : Nat) cP ta tk tb B5 (8 : Int32) (3 : Int32) (9 : Int32) (5 : Int32) y5.toInt8.toInt32 d8 C (by decide) (by decide) (by decide) j144_1 (by decide) rfl hP n_b101 n_w_103 ne109 htb (by decide) (by decide) hd8 gd8 (by decide) (by decide) X144 e144 O147 c150 P144_0 P144_1 P144_2 P144_3 SC ST AT N144 ?_
  intro T151 L151 h151 Y9 X151 e151 K151 j151_0 j151_1 P151_0 P151_1 P151_2 P151_3 N151
  have O153 : Ext Z.heap h151 := (Ext.keep O147 K151 (allS n_b101 (allS n_w_103 all0)))
  refine sg_nx hw a b101 B5 (3 : Int32) (9 : Int32) (5 : Int32) (6 : Int32) y5.toInt8.toInt32 C (by decide) (by decide) (by decide) (by decide) (by decide) (by decide) X151 e151 O153  N151 ?_
  obtain ⟨B6, hB6⟩ : ∃ z, z = ((B5 <<< ((8 : Int32) &&& 31)) ||| (y6.toInt8.toInt32 &&& (255 : Int32))) := ⟨_, rfl⟩
  have vB6 := bufv hB6
  have c154 : AL Z h151 a ka .byte (by8 [y0, y1, y2, y3, y4, y5, y6, y7, y8]) := (AL.keep c148 K151 (ninS ne105 (ninS ne114 nin0)))
  refine sg_in hw a ka b101 B5 B6 (3 : Int32) (11 : Int32) (9 : Int32) (6 : Int32) (Slot.val (.int y5.toInt8.toInt32)) y6 6 (by8 [y0, y1, y2, y3, y4, y5, y6, y7, y8]) C (by decide) (by decide) (by decide) (by decide) (by decide) (by8_get rfl) (One.val rfl) hB6 (by decide) (by decide) (by decide) X151 e151 O153 c154 N151 ?_
  obtain ⟨d9, hd9⟩ : ∃ z, z = (((B6.toUInt32 >>> ((6 : Int32) &&& 31).toUInt32).toInt32) &&& (31 : Int32)) := ⟨_, rfl⟩
  have ud9 := ixv (6 : Int32) 6 64 (by decide) (by decide) (by decide) (by decide) hd9
  have gd9 := c_rng ud9
  have c156 : Exa Z h151 b101 "java/lang/StringBuilder" := (Exa.keep c150 K151)
  refine sg_ch hw a b101 w_103 kw_103 Y9 (16 : Nat) (9 : Nat) (10 : Nat) cP ta tk tb B6 (11 : Int32) (6 : Int32) (9 : Int32) (6 : Int32) y6.toInt8.toInt32 d9 C (by decide) (by decide) (by decide) j151_1 (by decide) rfl hP n_b101 n_w_103 ne109 htb (by decide) (by decide) hd9 gd9 (by decide) (by decide) X151 e151 O153 c156 P151_0 P151_1 P151_2 P151_3 SC ST AT N151 ?_
  intro T157 L157 h157 Y10 X157 e157 K157 j157_0 j157_1 P157_0 P157_1 P157_2 P157_3 N157
  obtain ⟨d10, hd10⟩ : ∃ z, z = (((B6.toUInt32 >>> ((1 : Int32) &&& 31).toUInt32).toInt32) &&& (31 : Int32)) := ⟨_, rfl⟩
  have ud10 := ixv (1 : Int32) 1 2 (by decide) (by decide) (by decide) (by decide) hd10
  have gd10 := c_rng ud10
  have c158 : Exa Z h157 b101 "java/lang/StringBuilder" := (Exa.keep c156 K157)
  have O160 : Ext Z.heap h157 := (Ext.keep O153 K157 (allS n_b101 (allS n_w_103 all0)))
  refine sg_ch hw a b101 w_103 kw_103 Y10 (16 : Nat) (10 : Nat) (11 : Nat) cP ta tk tb B6 (6 : Int32) (1 : Int32) (9 : Int32) (6 : Int32) y6.toInt8.toInt32 d10 C (by decide) (by decide) (by decide) j157_1 (by decide) rfl hP n_b101 n_w_103 ne109 htb (by decide) (by decide) hd10 gd10 (by decide) (by decide) X157 e157 O160 c158 P157_0 P157_1 P157_2 P157_3 SC ST AT N157 ?_
  intro T159 L159 h159 Y11 X159 e159 K159 j159_0 j159_1 P159_0 P159_1 P159_2 P159_3 N159
  have O162 : Ext Z.heap h159 := (Ext.keep O160 K159 (allS n_b101 (allS n_w_103 all0)))
  refine sg_nx hw a b101 B6 (1 : Int32) (9 : Int32) (6 : Int32) (7 : Int32) y6.toInt8.toInt32 C (by decide) (by decide) (by decide) (by decide) (by decide) (by decide) X159 e159 O162  N159 ?_
  obtain ⟨B7, hB7⟩ : ∃ z, z = ((B6 <<< ((8 : Int32) &&& 31)) ||| (y7.toInt8.toInt32 &&& (255 : Int32))) := ⟨_, rfl⟩
  have vB7 := bufv hB7
  have c163 : AL Z h159 a ka .byte (by8 [y0, y1, y2, y3, y4, y5, y6, y7, y8]) := (AL.keep (AL.keep c154 K157 (ninS ne105 (ninS ne114 nin0))) K159 (ninS ne105 (ninS ne114 nin0)))
  refine sg_in hw a ka b101 B6 B7 (1 : Int32) (9 : Int32) (9 : Int32) (7 : Int32) (Slot.val (.int y6.toInt8.toInt32)) y7 7 (by8 [y0, y1, y2, y3, y4, y5, y6, y7, y8]) C (by decide) (by decide) (by decide) (by decide) (by decide) (by8_get rfl) (One.val rfl) hB7 (by decide) (by decide) (by decide) X159 e159 O162 c163 N159 ?_
  obtain ⟨d11, hd11⟩ : ∃ z, z = (((B7.toUInt32 >>> ((4 : Int32) &&& 31).toUInt32).toInt32) &&& (31 : Int32)) := ⟨_, rfl⟩
  have ud11 := ixv (4 : Int32) 4 16 (by decide) (by decide) (by decide) (by decide) hd11
  have gd11 := c_rng ud11
  have c165 : Exa Z h159 b101 "java/lang/StringBuilder" := (Exa.keep c158 K159)
  refine sg_ch hw a b101 w_103 kw_103 Y11 (16 : Nat) (11 : Nat) (12 : Nat) cP ta tk tb B7 (9 : Int32) (4 : Int32) (9 : Int32) (7 : Int32) y7.toInt8.toInt32 d11 C (by decide) (by decide) (by decide) j159_1 (by decide) rfl hP n_b101 n_w_103 ne109 htb (by decide) (by decide) hd11 gd11 (by decide) (by decide) X159 e159 O162 c165 P159_0 P159_1 P159_2 P159_3 SC ST AT N159 ?_
  intro T166 L166 h166 Y12 X166 e166 K166 j166_0 j166_1 P166_0 P166_1 P166_2 P166_3 N166
  have O168 : Ext Z.heap h166 := (Ext.keep O162 K166 (allS n_b101 (allS n_w_103 all0)))
  refine sg_nx hw a b101 B7 (4 : Int32) (9 : Int32) (7 : Int32) (8 : Int32) y7.toInt8.toInt32 C (by decide) (by decide) (by decide) (by decide) (by decide) (by decide) X166 e166 O168  N166 ?_
  obtain ⟨B8, hB8⟩ : ∃ z, z = ((B7 <<< ((8 : Int32) &&& 31)) ||| (y8.toInt8.toInt32 &&& (255 : Int32))) := ⟨_, rfl⟩
  have vB8 := bufv hB8
  have c169 : AL Z h166 a ka .byte (by8 [y0, y1, y2, y3, y4, y5, y6, y7, y8]) := (AL.keep c163 K166 (ninS ne105 (ninS ne114 nin0)))
  refine sg_in hw a ka b101 B7 B8 (4 : Int32) (12 : Int32) (9 : Int32) (8 : Int32) (Slot.val (.int y7.toInt8.toInt32)) y8 8 (by8 [y0, y1, y2, y3, y4, y5, y6, y7, y8]) C (by decide) (by decide) (by decide) (by decide) (by decide) (by8_get rfl) (One.val rfl) hB8 (by decide) (by decide) (by decide) X166 e166 O168 c169 N166 ?_
  obtain ⟨d12, hd12⟩ : ∃ z, z = (((B8.toUInt32 >>> ((7 : Int32) &&& 31).toUInt32).toInt32) &&& (31 : Int32)) := ⟨_, rfl⟩
  have ud12 := ixv (7 : Int32) 7 128 (by decide) (by decide) (by decide) (by decide) hd12
  have gd12 := c_rng ud12
  have c171 : Exa Z h166 b101 "java/lang/StringBuilder" := (Exa.keep c165 K166)
  refine sg_ch hw a b101 w_103 kw_103 Y12 (16 : Nat) (12 : Nat) (13 : Nat) cP ta tk tb B8 (12 : Int32) (7 : Int32) (9 : Int32) (8 : Int32) y8.toInt8.toInt32 d12 C (by decide) (by decide) (by decide) j166_1 (by decide) rfl hP n_b101 n_w_103 ne109 htb (by decide) (by decide) hd12 gd12 (by decide) (by decide) X166 e166 O168 c171 P166_0 P166_1 P166_2 P166_3 SC ST AT N166 ?_
  intro T172 L172 h172 Y13 X172 e172 K172 j172_0 j172_1 P172_0 P172_1 P172_2 P172_3 N172
  obtain ⟨d13, hd13⟩ : ∃ z, z = (((B8.toUInt32 >>> ((2 : Int32) &&& 31).toUInt32).toInt32) &&& (31 : Int32)) := ⟨_, rfl⟩
  have ud13 := ixv (2 : Int32) 2 4 (by decide) (by decide) (by decide) (by decide) hd13
  have gd13 := c_rng ud13
  have c173 : Exa Z h172 b101 "java/lang/StringBuilder" := (Exa.keep c171 K172)
  have O175 : Ext Z.heap h172 := (Ext.keep O168 K172 (allS n_b101 (allS n_w_103 all0)))
  refine sg_ch hw a b101 w_103 kw_103 Y13 (16 : Nat) (13 : Nat) (14 : Nat) cP ta tk tb B8 (7 : Int32) (2 : Int32) (9 : Int32) (8 : Int32) y8.toInt8.toInt32 d13 C (by decide) (by decide) (by decide) j172_1 (by decide) rfl hP n_b101 n_w_103 ne109 htb (by decide) (by decide) hd13 gd13 (by decide) (by decide) X172 e172 O175 c173 P172_0 P172_1 P172_2 P172_3 SC ST AT N172 ?_
  intro T174 L174 h174 Y14 X174 e174 K174 j174_0 j174_1 P174_0 P174_1 P174_2 P174_3 N174
  have O177 : Ext Z.heap h174 := (Ext.keep O175 K174 (allS n_b101 (allS n_w_103 all0)))
  refine sg_nx hw a b101 B8 (2 : Int32) (9 : Int32) (8 : Int32) (9 : Int32) y8.toInt8.toInt32 C (by decide) (by decide) (by decide) (by decide) (by decide) (by decide) X174 e174 O177  N174 ?_
  refine Go.iload (pc' := 34) C X174 d9_32 rfl rfl ?_
  refine Go.iload (pc' := 36) C X174 d9_34 rfl rfl ?_
  refine Go.icmpYes (pc' := 93) C X174 d9_36 (flt (x := (9 : Int32)) (y := (9 : Int32)) (by decide)).2.1 (by decide) (by decide) ?_
  obtain ⟨d14, hd14⟩ : ∃ z, z = ((B8 <<< (((5 : Int32) - (2 : Int32)) &&& 31)) &&& (31 : Int32)) := ⟨_, rfl⟩
  have ud14 := ixl ((5 : Int32) - (2 : Int32)) 3 8 (by decide) (by decide) (by decide) hd14
  have gd14 := c_rng ud14
  have c179 : Exa Z h174 b101 "java/lang/StringBuilder" := (Exa.keep c173 K174)
  refine sg_tl hw a b101 w_103 kw_103 Y14 (16 : Nat) (14 : Nat) (15 : Nat) cP ta tk tb B8 (2 : Int32) (9 : Int32) (9 : Int32) y8.toInt8.toInt32 d14 C (by decide) (by decide) (by decide) j174_1 (by decide) rfl hP n_b101 n_w_103 ne109 htb (by decide) hd14 gd14 (by decide) (by decide) X174 e174 O177 c179 P174_0 P174_1 P174_2 P174_3 SC ST AT N174 ?_
  intro T180 L180 h180 Y15 X180 e180 K180 j180_0 j180_1 P180_0 P180_1 P180_2 P180_3 N180
  have c181 : Exa Z h180 b101 "java/lang/StringBuilder" := (Exa.keep c179 K180)
  have O183 : Ext Z.heap h180 := (Ext.keep O177 K180 (allS n_b101 (allS n_w_103 all0)))
  refine sg_pd hw a b101 w_103 kw_103 Y15 (16 : Nat) (15 : Nat) (16 : Nat) cP B8 (2 : Int32) (9 : Int32) (9 : Int32) y8.toInt8.toInt32 C (by decide) (by decide) (by decide) j180_1 (by decide) rfl hP n_b101 n_w_103 ne109 (by decide) (by decide) (by decide) X180 e180 O183 c181 P180_0 P180_1 P180_2 P180_3 SC N180 ?_
  intro T182 L182 h182 Y16 X182 e182 K182 j182_0 j182_1 P182_0 P182_1 P182_2 P182_3 N182
  refine Go.aloadN (pc' := 115) C X182 d9_114 rfl rfl rfl ?_
  have c185 : Exa Z h182 b101 "java/lang/StringBuilder" := (Exa.keep c181 K182)
  have O186 : Ext Z.heap h182 := (Ext.keep O183 K182 (allS n_b101 (allS n_w_103 all0)))
  refine Go.callV (y := mN22) (z := mN22) (a := b101) (pc' := 118) C X182 (tw hw 63 rfl) (tw hw 64 rfl) (notFace_at C.2.1 (tw hw 66 rfl)) (tw hw 66 rfl) (tw hw 65 rfl) c185 (by decide) (rm_sbl l Z a0 hw b101 ((16 : Nat).toInt32) h182 O186 c185 P182_2) (tw hw 67 rfl) (tw hw 45 rfl) e182 (argsL := []) (rest := []) (W := 0) rfl rfl pd_6 rfl (Nat.le_of_eq rfl) rfl (by decide) (by decide) (by decide) (by decide) d9_115 rfl ?_
  intro T184 v184 L184 X184 q184
  obtain ⟨rfl, rfl, e184⟩ := q184
  have N184 := Fr.app N182 (Fr.nil _)
  rw [show (16 : Nat).toInt32 = (16 : Int32) from rfl]
  refine Go.bipush (z := (8 : Int32)) (pc' := 120) C X184 d9_118 rfl rfl ?_
  refine Go.irem (pc' := 121) C X184 d9_120 (by decide) rfl ?_
  rw [show ((16 : Int32) % (8 : Int32)) = (0 : Int32) from by decide]
  refine Go.ifYes (pc' := 134) C X184 d9_121 ((if0 _ _).trans (teq (x := (0 : Int32)) (y := (0 : Int32)) (by decide)).1) (by decide) (by decide) ?_
  have ctE : Fld Z h182 b101 "java/lang/AbstractStringBuilder" "count" "I" (.int Y16.length.toInt32) := by rw [j182_1]; exact P182_2
  refine Go.aloadN (pc' := 135) C X184 d9_134 rfl rfl rfl ?_
  have c189 : Exa Z h182 w_103 "[B" := (Exa.keep (Exa.keep (Exa.keep (Exa.keep (Exa.keep (Exa.keep (Exa.keep (Exa.keep (Exa.keep (Exa.keep (Exa.keep (Exa.keep (Exa.keep (Exa.keep (Exa.keep (Exa.keep P103_3 K111) K118) K120) K127) K133) K135) K142) K144) K151) K157) K159) K166) K172) K174) K180) K182)
  refine Go.callV (y := mN23) (z := mN23) (a := b101) (pc' := 138) C X184 (tw hw 75 rfl) (tw hw 76 rfl) (notFace_at C.2.1 (tw hw 78 rfl)) (tw hw 78 rfl) (tw hw 77 rfl) c185 (by decide) (rm_tos l Z a0 hw b101 w_103 kw_103 Y16 cP h182 O186 c185 P182_0 P182_1 ctE c189 P182_3 SC (by rw [j182_1]; decide) hP) (tw hw 79 rfl) (tw hw 45 rfl) e184 (argsL := []) (rest := []) (W := 0) rfl rfl pd_18 rfl (Nat.le_of_eq rfl) rfl (by decide) (by decide) (by decide) (by decide) d9_135 rfl ?_
  intro T188 v188 L188 X188 q188
  obtain ⟨s1_188, v_188, kv_188, rfl, N188q, K188, B188_0, B188_1, P188_0, P188_1, P188_2, P188_3⟩ := q188
  have N188 := Fr.app N184 N188q
  have n_s1_188 : Z.heap.size ≤ s1_188 := Nat.le_trans O186.1 B188_0
  have z_s1_188 : h0.size ≤ s1_188 := Nat.le_trans (Nat.le_trans (Nat.le_trans (Nat.le_trans (Nat.le_trans (Nat.le_trans (Nat.le_trans (Nat.le_trans (Nat.le_trans (Nat.le_trans (Nat.le_trans (Nat.le_trans (Nat.le_trans (Nat.le_trans (Nat.le_trans (Nat.le_trans (Nat.le_trans (Nat.le_trans (Nat.le_trans (Nat.le_refl _) E101.1) K103.1) K111.1) K118.1) K120.1) K127.1) K133.1) K135.1) K142.1) K144.1) K151.1) K157.1) K159.1) K166.1) K172.1) K174.1) K180.1) K182.1) B188_0
  have n_v_188 : Z.heap.size ≤ v_188 := Nat.le_trans O186.1 B188_1
  have z_v_188 : h0.size ≤ v_188 := Nat.le_trans (Nat.le_trans (Nat.le_trans (Nat.le_trans (Nat.le_trans (Nat.le_trans (Nat.le_trans (Nat.le_trans (Nat.le_trans (Nat.le_trans (Nat.le_trans (Nat.le_trans (Nat.le_trans (Nat.le_trans (Nat.le_trans (Nat.le_trans (Nat.le_trans (Nat.le_trans (Nat.le_trans (Nat.le_refl _) E101.1) K103.1) K111.1) K118.1) K120.1) K127.1) K133.1) K135.1) K142.1) K144.1) K151.1) K157.1) K159.1) K166.1) K172.1) K174.1) K180.1) K182.1) B188_1
  have K190 : Keep h0 T188.heap [] := ((((((((((((((((((((Keep.refl h0 []).ext E101).trans K103 (allS (Or.inr z_b101) all0)).trans K111 (allS (Or.inr z_b101) (allS (Or.inr z_w_103) all0))).trans K118 (allS (Or.inr z_b101) (allS (Or.inr z_w_103) all0))).trans K120 (allS (Or.inr z_b101) (allS (Or.inr z_w_103) all0))).trans K127 (allS (Or.inr z_b101) (allS (Or.inr z_w_103) all0))).trans K133 (allS (Or.inr z_b101) (allS (Or.inr z_w_103) all0))).trans K135 (allS (Or.inr z_b101) (allS (Or.inr z_w_103) all0))).trans K142 (allS (Or.inr z_b101) (allS (Or.inr z_w_103) all0))).trans K144 (allS (Or.inr z_b101) (allS (Or.inr z_w_103) all0))).trans K151 (allS (Or.inr z_b101) (allS (Or.inr z_w_103) all0))).trans K157 (allS (Or.inr z_b101) (allS (Or.inr z_w_103) all0))).trans K159 (allS (Or.inr z_b101) (allS (Or.inr z_w_103) all0))).trans K166 (allS (Or.inr z_b101) (allS (Or.inr z_w_103) all0))).trans K172 (allS (Or.inr z_b101) (allS (Or.inr z_w_103) all0))).trans K174 (allS (Or.inr z_b101) (allS (Or.inr z_w_103) all0))).trans K180 (allS (Or.inr z_b101) (allS (Or.inr z_w_103) all0))).trans K182 (allS (Or.inr z_b101) (allS (Or.inr z_w_103) all0))).trans K188 all0)
  exact Go.retA C X188 rfl d9_138 rfl rfl rfl ⟨s1_188, v_188, kv_188, d0, d1, d2, d3, d4, d5, d6, d7, d8, d9, d10, d11, d12, d13, d14, rfl, N188, K190, z_s1_188, z_v_188, P188_0, P188_1, P188_2, (by have q := P188_3; rw [j182_0, j180_0, j174_0, j172_0, j166_0, j159_0, j157_0, j151_0, j144_0, j142_0, j135_0, j133_0, j127_0, j120_0, j118_0, j111_0] at q; exact q), (qv ud0 vB0 p0z), (qv ud1 vB1 (bufw vB0)), (qv ud2 vB1 (bufw vB0)), (qv ud3 vB2 (bufw vB1)), (qv ud4 vB3 (bufw vB2)), (qv ud5 vB3 (bufw vB2)), (qv ud6 vB4 (bufw vB3)), (qv ud7 vB4 (bufw vB3)), (qv ud8 vB5 (bufw vB4)), (qv ud9 vB6 (bufw vB5)), (qv ud10 vB6 (bufw vB5)), (qv ud11 vB7 (bufw vB6)), (qv ud12 vB8 (bufw vB7)), (qv ud13 vB8 (bufw vB7)), (ql ud14 vB8)⟩ (by decide) (by decide)
def Q_b32_10 (Z : State) (a : Addr) (ka : ClassId) (cP : Int32) (ta : Addr) (tk : ClassId) (tb : List Value) (y0 : Int32) (y1 : Int32) (y2 : Int32) (y3 : Int32) (y4 : Int32) (y5 : Int32) (y6 : Int32) (y7 : Int32) (y8 : Int32) (y9 : Int32) (h0 : Heap) (rv : Option Value) (h : Heap) (L : List Loc) : Prop := ∃ s1 : Addr, ∃ v : Addr, ∃ kv : ClassId, ∃ c0 : Int32, ∃ c1 : Int32, ∃ c2 : Int32, ∃ c3 : Int32, ∃ c4 : Int32, ∃ c5 : Int32, ∃ c6 : Int32, ∃ c7 : Int32, ∃ c8 : Int32, ∃ c9 : Int32, ∃ c10 : Int32, ∃ c11 : Int32, ∃ c12 : Int32, ∃ c13 : Int32, ∃ c14 : Int32, ∃ c15 : Int32, rv = some (.ref s1) ∧ Fr Z.heap.size L ∧ Keep h0 h [] ∧ h0.size ≤ s1 ∧ h0.size ≤ v ∧ Exa Z h s1 "java/lang/String" ∧ Fld Z h s1 "java/lang/String" "value" "[B" (.ref v) ∧ Fld Z h s1 "java/lang/String" "coder" "B" (.int (0 : Int32)) ∧ AL Z h v kv .byte (by8 [(alf c0), (alf c1), (alf c2), (alf c3), (alf c4), (alf c5), (alf c6), (alf c7), (alf c8), (alf c9), (alf c10), (alf c11), (alf c12), (alf c13), (alf c14), (alf c15)]) ∧ (c0.toInt = ((0) * 256 + y0.toInt % 256) / 8 % 32) ∧ (c1.toInt = ((y0.toInt % 16) * 256 + y1.toInt % 256) / 64 % 32) ∧ (c2.toInt = ((y0.toInt % 16) * 256 + y1.toInt % 256) / 2 % 32) ∧ (c3.toInt = ((y1.toInt % 16) * 256 + y2.toInt % 256) / 16 % 32) ∧ (c4.toInt = ((y2.toInt % 16) * 256 + y3.toInt % 256) / 128 % 32) ∧ (c5.toInt = ((y2.toInt % 16) * 256 + y3.toInt % 256) / 4 % 32) ∧ (c6.toInt = ((y3.toInt % 16) * 256 + y4.toInt % 256) / 32 % 32) ∧ (c7.toInt = ((y3.toInt % 16) * 256 + y4.toInt % 256) / 1 % 32) ∧ (c8.toInt = ((y4.toInt % 16) * 256 + y5.toInt % 256) / 8 % 32) ∧ (c9.toInt = ((y5.toInt % 16) * 256 + y6.toInt % 256) / 64 % 32) ∧ (c10.toInt = ((y5.toInt % 16) * 256 + y6.toInt % 256) / 2 % 32) ∧ (c11.toInt = ((y6.toInt % 16) * 256 + y7.toInt % 256) / 16 % 32) ∧ (c12.toInt = ((y7.toInt % 16) * 256 + y8.toInt % 256) / 128 % 32) ∧ (c13.toInt = ((y7.toInt % 16) * 256 + y8.toInt % 256) / 4 % 32) ∧ (c14.toInt = ((y8.toInt % 16) * 256 + y9.toInt % 256) / 32 % 32) ∧ (c15.toInt = ((y8.toInt % 16) * 256 + y9.toInt % 256) / 1 % 32)
theorem rm_b32_10 (l : Launch) (Z : State) (a0 : Array Value) (hw : ∀ d ∈ tables_1, d.before a0 Z = true) (a : Addr) (ka : ClassId) (cP : Int32) (ta : Addr) (tk : ClassId) (tb : List Value) (y0 : Int32) (y1 : Int32) (y2 : Int32) (y3 : Int32) (y4 : Int32) (y5 : Int32) (y6 : Int32) (y7 : Int32) (y8 : Int32) (y9 : Int32) (h0 : Heap) (O0 : Ext Z.heap h0) (A0 : AL Z h0 a ka .byte (by8 [y0, y1, y2, y3, y4, y5, y6, y7, y8, y9])) (SC : Sta Z Z.heap "java/lang/String" "COMPACT_STRINGS" "Z" (.int cP)) (ST : Sta Z Z.heap "com/example/barrault/barrault/io/WarcDigest" "BASE32" "[C" (.ref ta)) (AT : AL Z Z.heap ta tk .char tb) (hP : ¬ cP = (0 : Int32)) (htb : ∀ c : Int32, 0 ≤ c.toInt → c.toInt < 32 → tb[c.toNatClampNeg]? = some (.int (alf c))) :
    Met1 l Z mN0 prog_23_method_5_code 8 (some (.object "java/lang/String")) ({ frames := 5, cells := 4, slots := 40, locals := 71 } : Room) #[(.ref a)] h0 (Q_b32_10 Z a ka cP ta tk tb y0 y1 y2 y3 y4 y5 y6 y7 y8 y9 h0) := by
  refine Met1.of_body (Ls := #[.val (.ref a), .unset, .unset, .unset, .unset, .unset, .unset, .unset]) pf_9 (fun m => by first | (simp [entryFrame, mkF, argsToLocals, Value.category]; done) | rfl) ?_
  intro p e s m below meth c T0 C X0 e0
  have N0 : Fr Z.heap.size [] := Fr.nil _
  refine Go.newO (pc' := 3) C X0 (tw hw 43 rfl) (tw hw 44 rfl) (tw hw 45 rfl) e0 (by decide) (by decide) d9_0 rfl ?_
  intro T101 h101 b101 X101 e101 g101 E101 A101 D101
  have n_b101 : Z.heap.size ≤ b101 := Nat.le_trans O0.1 (Nat.le_of_eq g101.symm)
  have z_b101 : h0.size ≤ b101 := Nat.le_trans (Nat.le_refl _) (Nat.le_of_eq g101.symm)
  have F101_value : Fld Z h101 b101 "java/lang/AbstractStringBuilder" "value" "[B" .null := D101 (Or.inl (tw hw 60 rfl)) (ty := (.array .byte)) (by decide)
  have F101_coder : Fld Z h101 b101 "java/lang/AbstractStringBuilder" "coder" "B" (.int (0 : Int32)) := D101 (Or.inl (tw hw 62 rfl)) (ty := .byte) (by decide)
  have F101_count : Fld Z h101 b101 "java/lang/AbstractStringBuilder" "count" "I" (.int (0 : Int32)) := D101 (Or.inl (tw hw 74 rfl)) (ty := .int) (by decide)
  refine Go.dup (pc' := 4) C X101 d9_3 rfl rfl ?_
  refine Go.aloadN (pc' := 5) C X101 d9_4 rfl rfl rfl ?_
  have c102 : AL Z h101 a ka .byte (by8 [y0, y1, y2, y3, y4, y5, y6, y7, y8, y9]) := (AL.ext E101 A0)
  refine Go.alen (z := (10 : Int32)) (pc' := 6) C X101 e101 c102 (by rw [by8_len]; rfl) d9_5 rfl ?_
  refine Go.iconst (z := (4 : Int32)) (pc' := 7) C X101 d9_6 rfl rfl ?_
  refine Go.iadd (pc' := 8) C X101 d9_7 rfl ?_
  rw [show ((10 : Int32) + (4 : Int32)) = (14 : Int32) from by decide]
  refine Go.iconst (z := (5 : Int32)) (pc' := 9) C X101 d9_8 rfl rfl ?_
  refine Go.idiv (pc' := 10) C X101 d9_9 (by decide) rfl ?_
  refine Go.bipush (z := (8 : Int32)) (pc' := 12) C X101 d9_10 rfl rfl ?_
  refine Go.imul (pc' := 13) C X101 d9_12 rfl ?_
  rw [show (((14 : Int32) / (5 : Int32)) * (8 : Int32)) = (16 : Nat).toInt32 from by decide]
  have O104 : Ext Z.heap h101 := (Ext.trans O0 E101)
  refine Go.callI (y := mN20) (a := b101) (pc' := 16) C X101 rfl (tw hw 46 rfl) (tw hw 47 rfl) (by decide) (rm_sbI l Z a0 hw b101 ((16 : Nat)) cP h101 O104 A101 F101_value F101_coder F101_count SC n_b101 hP (by decide)) (tw hw 48 rfl) (tw hw 45 rfl) e101 (argsL := [(.int (16 : Nat).toInt32)]) (rest := [(.ref b101)]) (W := 1) rfl rfl pd_5 rfl (Nat.le_of_eq rfl) rfl (by decide) (by decide) (by decide) (by decide) rfl d9_13 rfl ?_
  intro T103 v103 L103 X103 q103
  obtain ⟨w_103, kw_103, rfl, N103q, K103, B103_0, P103_0, P103_1, P103_2, P103_3, P103_4⟩ := q103
  have N103 := Fr.app N0 N103q
  have n_w_103 : Z.heap.size ≤ w_103 := Nat.le_trans O104.1 B103_0
  have z_w_103 : h0.size ≤ w_103 := Nat.le_trans (Nat.le_trans (Nat.le_refl _) E101.1) B103_0
  refine Go.astoreN (Ls' := #[.val (.ref a), .val (.ref b101), .unset, .unset, .unset, .unset, .unset, .unset]) (pc' := 17) C X103 d9_16 rfl rfl rfl ?_
  refine Go.iconst (z := (0 : Int32)) (pc' := 18) C X103 d9_17 rfl rfl ?_
  refine Go.istoreN (Ls' := #[.val (.ref a), .val (.ref b101), .val (.int (0 : Int32)), .unset, .unset, .unset, .unset, .unset]) (pc' := 19) C X103 d9_18 rfl rfl ?_
  refine Go.iconst (z := (0 : Int32)) (pc' := 20) C X103 d9_19 rfl rfl ?_
  refine Go.istoreN (Ls' := #[.val (.ref a), .val (.ref b101), .val (.int (0 : Int32)), .val (.int (0 : Int32)), .unset, .unset, .unset, .unset]) (pc' := 21) C X103 d9_20 rfl rfl ?_
  refine Go.aloadN (pc' := 22) C X103 d9_21 rfl rfl rfl ?_
  refine Go.astore (Ls' := #[.val (.ref a), .val (.ref b101), .val (.int (0 : Int32)), .val (.int (0 : Int32)), .val (.ref a), .unset, .unset, .unset]) (pc' := 24) C X103 d9_22 rfl rfl rfl ?_
  refine Go.aload (pc' := 26) C X103 d9_24 rfl rfl rfl ?_
  have ne105 : a ≠ b101 := Nat.ne_of_lt (Nat.lt_of_lt_of_le A0.lt (Nat.le_trans (Nat.le_refl _) (Nat.le_of_eq g101.symm)))
  have c106 : AL Z T103.heap a ka .byte (by8 [y0, y1, y2, y3, y4, y5, y6, y7, y8, y9]) := (AL.keep c102 K103 (ninS ne105 nin0))
  refine Go.alen (z := (10 : Int32)) (pc' := 27) C X103 rfl c106 (by rw [by8_len]; rfl) d9_26 rfl ?_
  refine Go.istore (Ls' := #[.val (.ref a), .val (.ref b101), .val (.int (0 : Int32)), .val (.int (0 : Int32)), .val (.ref a), .val (.int (10 : Int32)), .unset, .unset]) (pc' := 29) C X103 d9_27 rfl rfl ?_
  refine Go.iconst (z := (0 : Int32)) (pc' := 30) C X103 d9_29 rfl rfl ?_
  refine Go.istore (Ls' := #[.val (.ref a), .val (.ref b101), .val (.int (0 : Int32)), .val (.int (0 : Int32)), .val (.ref a), .val (.int (10 : Int32)), .val (.int (0 : Int32)), .unset]) (pc' := 32) C X103 d9_30 rfl rfl ?_
  obtain ⟨B0, hB0⟩ : ∃ z, z = (((0 : Int32) <<< ((8 : Int32) &&& 31)) ||| (y0.toInt8.toInt32 &&& (255 : Int32))) := ⟨_, rfl⟩
  have vB0 := bufv hB0
  have O108 : Ext Z.heap T103.heap := (Ext.keep O104 K103 (allS n_b101 all0))
  refine sg_in hw a ka b101 (0 : Int32) B0 (0 : Int32) (8 : Int32) (10 : Int32) (0 : Int32) Slot.unset y0 0 (by8 [y0, y1, y2, y3, y4, y5, y6, y7, y8, y9]) C (by decide) (by decide) (by decide) (by decide) (by decide) (by8_get rfl) One.u hB0 (by decide) (by decide) (by decide) X103 rfl O108 c106 N103 ?_
  obtain ⟨d0, hd0⟩ : ∃ z, z = (((B0.toUInt32 >>> ((3 : Int32) &&& 31).toUInt32).toInt32) &&& (31 : Int32)) := ⟨_, rfl⟩
  have ud0 := ixv (3 : Int32) 3 8 (by decide) (by decide) (by decide) (by decide) hd0
  have gd0 := c_rng ud0
  have lY0 : ((List.replicate (16 : Nat) 0) : List Int32).length = 16 := by simp
  have ct0 : Fld Z T103.heap b101 "java/lang/AbstractStringBuilder" "count" "I" (.int (0 : Nat).toInt32) := P103_2
  have ne109 : b101 ≠ w_103 := Nat.ne_of_lt (Nat.lt_of_lt_of_le A101.lt (Nat.le_trans (Nat.le_refl _) B103_0))
  have c110 : Exa Z T103.heap b101 "java/lang/StringBuilder" := (Exa.keep A101 K103)
  refine sg_ch hw a b101 w_103 kw_103 (List.replicate (16 : Nat) 0) (16 : Nat) (0 : Nat) (1 : Nat) cP ta tk tb B0 (8 : Int32) (3 : Int32) (10 : Int32) (0 : Int32) y0.toInt8.toInt32 d0 C (by decide) (by decide) (by decide) lY0 (by decide) rfl hP n_b101 n_w_103 ne109 htb (by decide) (by decide) hd0 gd0 (by decide) (by decide) X103 rfl O108 c110 P103_0 P103_1 ct0 P103_4 SC ST AT N103 ?_
  intro T111 L111 h111 Y1 X111 e111 K111 j111_0 j111_1 P111_0 P111_1 P111_2 P111_3 N111
  have O113 : Ext Z.heap h111 := (Ext.keep O108 K111 (allS n_b101 (allS n_w_103 all0)))
  refine sg_nx hw a b101 B0 (3 : Int32) (10 : Int32) (0 : Int32) (1 : Int32) y0.toInt8.toInt32 C (by decide) (by decide) (by decide) (by decide) (by decide) (by decide) X111 e111 O113  N111 ?_
  obtain ⟨B1, hB1⟩ : ∃ z, z = ((B0 <<< ((8 : Int32) &&& 31)) ||| (y1.toInt8.toInt32 &&& (255 : Int32))) := ⟨_, rfl⟩
  have vB1 := bufv hB1
  have ne114 : a ≠ w_103 := Nat.ne_of_lt (Nat.lt_of_lt_of_le A0.lt (Nat.le_trans (Nat.le_trans (Nat.le_refl _) E101.1) B103_0))
  have c115 : AL Z h111 a ka .byte (by8 [y0, y1, y2, y3, y4, y5, y6, y7, y8, y9]) := (AL.keep c106 K111 (ninS ne105 (ninS ne114 nin0)))
  refine sg_in hw a ka b101 B0 B1 (3 : Int32) (11 : Int32) (10 : Int32) (1 : Int32) (Slot.val (.int y0.toInt8.toInt32)) y1 1 (by8 [y0, y1, y2, y3, y4, y5, y6, y7, y8, y9]) C (by decide) (by decide) (by decide) (by decide) (by decide) (by8_get rfl) (One.val rfl) hB1 (by decide) (by decide) (by decide) X111 e111 O113 c115 N111 ?_
  obtain ⟨d1, hd1⟩ : ∃ z, z = (((B1.toUInt32 >>> ((6 : Int32) &&& 31).toUInt32).toInt32) &&& (31 : Int32)) := ⟨_, rfl⟩
  have ud1 := ixv (6 : Int32) 6 64 (by decide) (by decide) (by decide) (by decide) hd1
  have gd1 := c_rng ud1
  have c117 : Exa Z h111 b101 "java/lang/StringBuilder" := (Exa.keep c110 K111)
  refine sg_ch hw a b101 w_103 kw_103 Y1 (16 : Nat) (1 : Nat) (2 : Nat) cP ta tk tb B1 (11 : Int32) (6 : Int32) (10 : Int32) (1 : Int32) y1.toInt8.toInt32 d1 C (by decide) (by decide) (by decide) j111_1 (by decide) rfl hP n_b101 n_w_103 ne109 htb (by decide) (by decide) hd1 gd1 (by decide) (by decide) X111 e111 O113 c117 P111_0 P111_1 P111_2 P111_3 SC ST AT N111 ?_
  intro T118 L118 h118 Y2 X118 e118 K118 j118_0 j118_1 P118_0 P118_1 P118_2 P118_3 N118
  obtain ⟨d2, hd2⟩ : ∃ z, z = (((B1.toUInt32 >>> ((1 : Int32) &&& 31).toUInt32).toInt32) &&& (31 : Int32)) := ⟨_, rfl⟩
  have ud2 := ixv (1 : Int32) 1 2 (by decide) (by decide) (by decide) (by decide) hd2
  have gd2 := c_rng ud2
  have c119 : Exa Z h118 b101 "java/lang/StringBuilder" := (Exa.keep c117 K118)
  have O121 : Ext Z.heap h118 := (Ext.keep O113 K118 (allS n_b101 (allS n_w_103 all0)))
  refine sg_ch hw a b101 w_103 kw_103 Y2 (16 : Nat) (2 : Nat) (3 : Nat) cP ta tk tb B1 (6 : Int32) (1 : Int32) (10 : Int32) (1 : Int32) y1.toInt8.toInt32 d2 C (by decide) (by decide) (by decide) j118_1 (by decide) rfl hP n_b101 n_w_103 ne109 htb (by decide) (by decide) hd2 gd2 (by decide) (by decide) X118 e118 O121 c119 P118_0 P118_1 P118_2 P118_3 SC ST AT N118 ?_
  intro T120 L120 h120 Y3 X120 e120 K120 j120_0 j120_1 P120_0 P120_1 P120_2 P120_3 N120
  have O123 : Ext Z.heap h120 := (Ext.keep O121 K120 (allS n_b101 (allS n_w_103 all0)))
  refine sg_nx hw a b101 B1 (1 : Int32) (10 : Int32) (1 : Int32) (2 : Int32) y1.toInt8.toInt32 C (by decide) (by decide) (by decide) (by decide) (by decide) (by decide) X120 e120 O123  N120 ?_
  obtain ⟨B2, hB2⟩ : ∃ z, z = ((B1 <<< ((8 : Int32) &&& 31)) ||| (y2.toInt8.toInt32 &&& (255 : Int32))) := ⟨_, rfl⟩
  have vB2 := bufv hB2
  have c124 : AL Z h120 a ka .byte (by8 [y0, y1, y2, y3, y4, y5, y6, y7, y8, y9]) := (AL.keep (AL.keep c115 K118 (ninS ne105 (ninS ne114 nin0))) K120 (ninS ne105 (ninS ne114 nin0)))
  refine sg_in hw a ka b101 B1 B2 (1 : Int32) (9 : Int32) (10 : Int32) (2 : Int32) (Slot.val (.int y1.toInt8.toInt32)) y2 2 (by8 [y0, y1, y2, y3, y4, y5, y6, y7, y8, y9]) C (by decide) (by decide) (by decide) (by decide) (by decide) (by8_get rfl) (One.val rfl) hB2 (by decide) (by decide) (by decide) X120 e120 O123 c124 N120 ?_
  obtain ⟨d3, hd3⟩ : ∃ z, z = (((B2.toUInt32 >>> ((4 : Int32) &&& 31).toUInt32).toInt32) &&& (31 : Int32)) := ⟨_, rfl⟩
  have ud3 := ixv (4 : Int32) 4 16 (by decide) (by decide) (by decide) (by decide) hd3
  have gd3 := c_rng ud3
  have c126 : Exa Z h120 b101 "java/lang/StringBuilder" := (Exa.keep c119 K120)
  refine sg_ch hw a b101 w_103 kw_103 Y3 (16 : Nat) (3 : Nat) (4 : Nat) cP ta tk tb B2 (9 : Int32) (4 : Int32) (10 : Int32) (2 : Int32) y2.toInt8.toInt32 d3 C (by decide) (by decide) (by decide) j120_1 (by decide) rfl hP n_b101 n_w_103 ne109 htb (by decide) (by decide) hd3 gd3 (by decide) (by decide) X120 e120 O123 c126 P120_0 P120_1 P120_2 P120_3 SC ST AT N120 ?_
  intro T127 L127 h127 Y4 X127 e127 K127 j127_0 j127_1 P127_0 P127_1 P127_2 P127_3 N127
  have O129 : Ext Z.heap h127 := (Ext.keep O123 K127 (allS n_b101 (allS n_w_103 all0)))
  refine sg_nx hw a b101 B2 (4 : Int32) (10 : Int32) (2 : Int32) (3 : Int32) y2.toInt8.toInt32 C (by decide) (by decide) (by decide) (by decide) (by decide) (by decide) X127 e127 O129  N127 ?_
  obtain ⟨B3, hB3⟩ : ∃ z, z = ((B2 <<< ((8 : Int32) &&& 31)) ||| (y3.toInt8.toInt32 &&& (255 : Int32))) := ⟨_, rfl⟩
  have vB3 := bufv hB3
  have c130 : AL Z h127 a ka .byte (by8 [y0, y1, y2, y3, y4, y5, y6, y7, y8, y9]) := (AL.keep c124 K127 (ninS ne105 (ninS ne114 nin0)))
  refine sg_in hw a ka b101 B2 B3 (4 : Int32) (12 : Int32) (10 : Int32) (3 : Int32) (Slot.val (.int y2.toInt8.toInt32)) y3 3 (by8 [y0, y1, y2, y3, y4, y5, y6, y7, y8, y9]) C (by decide) (by decide) (by decide) (by decide) (by decide) (by8_get rfl) (One.val rfl) hB3 (by decide) (by decide) (by decide) X127 e127 O129 c130 N127 ?_
  obtain ⟨d4, hd4⟩ : ∃ z, z = (((B3.toUInt32 >>> ((7 : Int32) &&& 31).toUInt32).toInt32) &&& (31 : Int32)) := ⟨_, rfl⟩
  have ud4 := ixv (7 : Int32) 7 128 (by decide) (by decide) (by decide) (by decide) hd4
  have gd4 := c_rng ud4
  have c132 : Exa Z h127 b101 "java/lang/StringBuilder" := (Exa.keep c126 K127)
  refine sg_ch hw a b101 w_103 kw_103 Y4 (16 : Nat) (4 : Nat) (5 : Nat) cP ta tk tb B3 (12 : Int32) (7 : Int32) (10 : Int32) (3 : Int32) y3.toInt8.toInt32 d4 C (by decide) (by decide) (by decide) j127_1 (by decide) rfl hP n_b101 n_w_103 ne109 htb (by decide) (by decide) hd4 gd4 (by decide) (by decide) X127 e127 O129 c132 P127_0 P127_1 P127_2 P127_3 SC ST AT N127 ?_
  intro T133 L133 h133 Y5 X133 e133 K133 j133_0 j133_1 P133_0 P133_1 P133_2 P133_3 N133
  obtain ⟨d5, hd5⟩ : ∃ z, z = (((B3.toUInt32 >>> ((2 : Int32) &&& 31).toUInt32).toInt32) &&& (31 : Int32)) := ⟨_, rfl⟩
  have ud5 := ixv (2 : Int32) 2 4 (by decide) (by decide) (by decide) (by decide) hd5
  have gd5 := c_rng ud5
  have c134 : Exa Z h133 b101 "java/lang/StringBuilder" := (Exa.keep c132 K133)
  have O136 : Ext Z.heap h133 := (Ext.keep O129 K133 (allS n_b101 (allS n_w_103 all0)))
  refine sg_ch hw a b101 w_103 kw_103 Y5 (16 : Nat) (5 : Nat) (6 : Nat) cP ta tk tb B3 (7 : Int32) (2 : Int32) (10 : Int32) (3 : Int32) y3.toInt8.toInt32 d5 C (by decide) (by decide) (by decide) j133_1 (by decide) rfl hP n_b101 n_w_103 ne109 htb (by decide) (by decide) hd5 gd5 (by decide) (by decide) X133 e133 O136 c134 P133_0 P133_1 P133_2 P133_3 SC ST AT N133 ?_
  intro T135 L135 h135 Y6 X135 e135 K135 j135_0 j135_1 P135_0 P135_1 P135_2 P135_3 N135
  have O138 : Ext Z.heap h135 := (Ext.keep O136 K135 (allS n_b101 (allS n_w_103 all0)))
  refine sg_nx hw a b101 B3 (2 : Int32) (10 : Int32) (3 : Int32) (4 : Int32) y3.toInt8.toInt32 C (by decide) (by decide) (by decide) (by decide) (by decide) (by decide) X135 e135 O138  N135 ?_
  obtain ⟨B4, hB4⟩ : ∃ z, z = ((B3 <<< ((8 : Int32) &&& 31)) ||| (y4.toInt8.toInt32 &&& (255 : Int32))) := ⟨_, rfl⟩
  have vB4 := bufv hB4
  have c139 : AL Z h135 a ka .byte (by8 [y0, y1, y2, y3, y4, y5, y6, y7, y8, y9]) := (AL.keep (AL.keep c130 K133 (ninS ne105 (ninS ne114 nin0))) K135 (ninS ne105 (ninS ne114 nin0)))
  refine sg_in hw a ka b101 B3 B4 (2 : Int32) (10 : Int32) (10 : Int32) (4 : Int32) (Slot.val (.int y3.toInt8.toInt32)) y4 4 (by8 [y0, y1, y2, y3, y4, y5, y6, y7, y8, y9]) C (by decide) (by decide) (by decide) (by decide) (by decide) (by8_get rfl) (One.val rfl) hB4 (by decide) (by decide) (by decide) X135 e135 O138 c139 N135 ?_
  obtain ⟨d6, hd6⟩ : ∃ z, z = (((B4.toUInt32 >>> ((5 : Int32) &&& 31).toUInt32).toInt32) &&& (31 : Int32)) := ⟨_, rfl⟩
  have ud6 := ixv (5 : Int32) 5 32 (by decide) (by decide) (by decide) (by decide) hd6
  have gd6 := c_rng ud6
  have c141 : Exa Z h135 b101 "java/lang/StringBuilder" := (Exa.keep c134 K135)
  refine sg_ch hw a b101 w_103 kw_103 Y6 (16 : Nat) (6 : Nat) (7 : Nat) cP ta tk tb B4 (10 : Int32) (5 : Int32) (10 : Int32) (4 : Int32) y4.toInt8.toInt32 d6 C (by decide) (by decide) (by decide) j135_1 (by decide) rfl hP n_b101 n_w_103 ne109 htb (by decide) (by decide) hd6 gd6 (by decide) (by decide) X135 e135 O138 c141 P135_0 P135_1 P135_2 P135_3 SC ST AT N135 ?_
  intro T142 L142 h142 Y7 X142 e142 K142 j142_0 j142_1 P142_0 P142_1 P142_2 P142_3 N142
  obtain ⟨d7, hd7⟩ : ∃ z, z = (((B4.toUInt32 >>> ((0 : Int32) &&& 31).toUInt32).toInt32) &&& (31 : Int32)) := ⟨_, rfl⟩
  have ud7 := ixv0 hd7
  have gd7 := c_rng ud7
  have c143 : Exa Z h142 b101 "java/lang/StringBuilder" := (Exa.keep c141 K142)
  have O145 : Ext Z.heap h142 := (Ext.keep O138 K142 (allS n_b101 (allS n_w_103 all0)))
  refine sg_ch hw a b101 w_103 kw_103 Y7 (16 : Nat) (7 : Nat) (8 : Nat) cP ta tk tb B4 (5 : Int32) (0 : Int32) (10 : Int32) (4 : Int32) y4.toInt8.toInt32 d7 C (by decide) (by decide) (by decide) j142_1 (by decide) rfl hP n_b101 n_w_103 ne109 htb (by decide) (by decide) hd7 gd7 (by decide) (by decide) X142 e142 O145 c143 P142_0 P142_1 P142_2 P142_3 SC ST AT N142 ?_
  intro T144 L144 h144 Y8 X144 e144 K144 j144_0 j144_1 P144_0 P144_1 P144_2 P144_3 N144
  have O147 : Ext Z.heap h144 := (Ext.keep O145 K144 (allS n_b101 (allS n_w_103 all0)))
  refine sg_nx hw a b101 B4 (0 : Int32) (10 : Int32) (4 : Int32) (5 : Int32) y4.toInt8.toInt32 C (by decide) (by decide) (by decide) (by decide) (by decide) (by decide) X144 e144 O147  N144 ?_
  obtain ⟨B5, hB5⟩ : ∃ z, z = ((B4 <<< ((8 : Int32) &&& 31)) ||| (y5.toInt8.toInt32 &&& (255 : Int32))) := ⟨_, rfl⟩
  have vB5 := bufv hB5
  have c148 : AL Z h144 a ka .byte (by8 [y0, y1, y2, y3, y4, y5, y6, y7, y8, y9]) := (AL.keep (AL.keep c139 K142 (ninS ne105 (ninS ne114 nin0))) K144 (ninS ne105 (ninS ne114 nin0)))
  refine sg_in hw a ka b101 B4 B5 (0 : Int32) (8 : Int32) (10 : Int32) (5 : Int32) (Slot.val (.int y4.toInt8.toInt32)) y5 5 (by8 [y0, y1, y2, y3, y4, y5, y6, y7, y8, y9]) C (by decide) (by decide) (by decide) (by decide) (by decide) (by8_get rfl) (One.val rfl) hB5 (by decide) (by decide) (by decide) X144 e144 O147 c148 N144 ?_
  obtain ⟨d8, hd8⟩ : ∃ z, z = (((B5.toUInt32 >>> ((3 : Int32) &&& 31).toUInt32).toInt32) &&& (31 : Int32)) := ⟨_, rfl⟩
  have ud8 := ixv (3 : Int32) 3 8 (by decide) (by decide) (by decide) (by decide) hd8
  have gd8 := c_rng ud8
  have c150 : Exa Z h144 b101 "java/lang/StringBuilder" := (Exa.keep c143 K144)
  refine sg_ch hw a b101 w_103 kw_103 Y8 (16 : Nat) (8 : Nat) (9 : Nat) cP ta tk tb B5 (8 : Int32) (3 : Int32) (10 : Int32) (5 : Int32) y5.toInt8.toInt32 d8 C (by decide) (by decide) (by decide) j144_1 (by decide) rfl hP n_b101 n_w_103 ne109 htb (by decide) (by decide) hd8 gd8 (by decide) (by decide) X144 e144 O147 c150 P144_0 P144_1 P144_2 P144_3 SC ST AT N144 ?_
  intro T151 L151 h151 Y9 X151 e151 K151 j151_0 j151_1 P151_0 P151_1 P151_2 P151_3 N151
  have O153 : Ext Z.heap h151 := (Ext.keep O147 K151 (allS n_b101 (allS n_w_103 all0)))
  refine sg_nx hw a b101 B5 (3 : Int32) (10 : Int32) (5 : Int32) (6 : Int32) y5.toInt8.toInt32 C (by decide) (by decide) (by decide) (by decide) (by decide) (by decide) X151 e151 O153  N151 ?_
  obtain ⟨B6, hB6⟩ : ∃ z, z = ((B5 <<< ((8 : Int32) &&& 31)) ||| (y6.toInt8.toInt32 &&& (255 : Int32))) := ⟨_, rfl⟩
  have vB6 := bufv hB6
  have c154 : AL Z h151 a ka .byte (by8 [y0, y1, y2, y3, y4, y5, y6, y7, y8, y9]) := (AL.keep c148 K151 (ninS ne105 (ninS ne114 nin0)))
  refine sg_in hw a ka b101 B5 B6 (3 : Int32) (11 : Int32) (10 : Int32) (6 : Int32) (Slot.val (.int y5.toInt8.toInt32)) y6 6 (by8 [y0, y1, y2, y3, y4, y5, y6, y7, y8, y9]) C (by decide) (by decide) (by decide) (by decide) (by decide) (by8_get rfl) (One.val rfl) hB6 (by decide) (by decide) (by decide) X151 e151 O153 c154 N151 ?_
  obtain ⟨d9, hd9⟩ : ∃ z, z = (((B6.toUInt32 >>> ((6 : Int32) &&& 31).toUInt32).toInt32) &&& (31 : Int32)) := ⟨_, rfl⟩
  have ud9 := ixv (6 : Int32) 6 64 (by decide) (by decide) (by decide) (by decide) hd9
  have gd9 := c_rng ud9
  have c156 : Exa Z h151 b101 "java/lang/StringBuilder" := (Exa.keep c150 K151)
  refine sg_ch hw a b101 w_103 kw_103 Y9 (16 : Nat) (9 : Nat) (10 : Nat) cP ta tk tb B6 (11 : Int32) (6 : Int32) (10 : Int32) (6 : Int32) y6.toInt8.toInt32 d9 C (by decide) (by decide) (by decide) j151_1 (by decide) rfl hP n_b101 n_w_103 ne109 htb (by decide) (by decide) hd9 gd9 (by decide) (by decide) X151 e151 O153 c156 P151_0 P151_1 P151_2 P151_3 SC ST AT N151 ?_
  intro T157 L157 h157 Y10 X157 e157 K157 j157_0 j157_1 P157_0 P157_1 P157_2 P157_3 N157
  obtain ⟨d10, hd10⟩ : ∃ z, z = (((B6.toUInt32 >>> ((1 : Int32) &&& 31).toUInt32).toInt32) &&& (31 : Int32)) := ⟨_, rfl⟩
  have ud10 := ixv (1 : Int32) 1 2 (by decide) (by decide) (by decide) (by decide) hd10
  have gd10 := c_rng ud10
  have c158 : Exa Z h157 b101 "java/lang/StringBuilder" := (Exa.keep c156 K157)
  have O160 : Ext Z.heap h157 := (Ext.keep O153 K157 (allS n_b101 (allS n_w_103 all0)))
  refine sg_ch hw a b101 w_103 kw_103 Y10 (16 : Nat) (10 : Nat) (11 : Nat) cP ta tk tb B6 (6 : Int32) (1 : Int32) (10 : Int32) (6 : Int32) y6.toInt8.toInt32 d10 C (by decide) (by decide) (by decide) j157_1 (by decide) rfl hP n_b101 n_w_103 ne109 htb (by decide) (by decide) hd10 gd10 (by decide) (by decide) X157 e157 O160 c158 P157_0 P157_1 P157_2 P157_3 SC ST AT N157 ?_
  intro T159 L159 h159 Y11 X159 e159 K159 j159_0 j159_1 P159_0 P159_1 P159_2 P159_3 N159
  have O162 : Ext Z.heap h159 := (Ext.keep O160 K159 (allS n_b101 (allS n_w_103 all0)))
  refine sg_nx hw a b101 B6 (1 : Int32) (10 : Int32) (6 : Int32) (7 : Int32) y6.toInt8.toInt32 C (by decide) (by decide) (by decide) (by decide) (by decide) (by decide) X159 e159 O162  N159 ?_
  obtain ⟨B7, hB7⟩ : ∃ z, z = ((B6 <<< ((8 : Int32) &&& 31)) ||| (y7.toInt8.toInt32 &&& (255 : Int32))) := ⟨_, rfl⟩
  have vB7 := bufv hB7
  have c163 : AL Z h159 a ka .byte (by8 [y0, y1, y2, y3, y4, y5, y6, y7, y8, y9]) := (AL.keep (AL.keep c154 K157 (ninS ne105 (ninS ne114 nin0))) K159 (ninS ne105 (ninS ne114 nin0)))
  refine sg_in hw a ka b101 B6 B7 (1 : Int32) (9 : Int32) (10 : Int32) (7 : Int32) (Slot.val (.int y6.toInt8.toInt32)) y7 7 (by8 [y0, y1, y2, y3, y4, y5, y6, y7, y8, y9]) C (by decide) (by decide) (by decide) (by decide) (by decide) (by8_get rfl) (One.val rfl) hB7 (by decide) (by decide) (by decide) X159 e159 O162 c163 N159 ?_
  obtain ⟨d11, hd11⟩ : ∃ z, z = (((B7.toUInt32 >>> ((4 : Int32) &&& 31).toUInt32).toInt32) &&& (31 : Int32)) := ⟨_, rfl⟩
  have ud11 := ixv (4 : Int32) 4 16 (by decide) (by decide) (by decide) (by decide) hd11
  have gd11 := c_rng ud11
  have c165 : Exa Z h159 b101 "java/lang/StringBuilder" := (Exa.keep c158 K159)
  refine sg_ch hw a b101 w_103 kw_103 Y11 (16 : Nat) (11 : Nat) (12 : Nat) cP ta tk tb B7 (9 : Int32) (4 : Int32) (10 : Int32) (7 : Int32) y7.toInt8.toInt32 d11 C (by decide) (by decide) (by decide) j159_1 (by decide) rfl hP n_b101 n_w_103 ne109 htb (by decide) (by decide) hd11 gd11 (by decide) (by decide) X159 e159 O162 c165 P159_0 P159_1 P159_2 P159_3 SC ST AT N159 ?_
  intro T166 L166 h166 Y12 X166 e166 K166 j166_0 j166_1 P166_0 P166_1 P166_2 P166_3 N166
  have O168 : Ext Z.heap h166 := (Ext.keep O162 K166 (allS n_b101 (allS n_w_103 all0)))
  refine sg_nx hw a b101 B7 (4 : Int32) (10 : Int32) (7 : Int32) (8 : Int32) y7.toInt8.toInt32 C (by decide) (by decide) (by decide) (by decide) (by decide) (by decide) X166 e166 O168  N166 ?_
  obtain ⟨B8, hB8⟩ : ∃ z, z = ((B7 <<< ((8 : Int32) &&& 31)) ||| (y8.toInt8.toInt32 &&& (255 : Int32))) := ⟨_, rfl⟩
  have vB8 := bufv hB8
  have c169 : AL Z h166 a ka .byte (by8 [y0, y1, y2, y3, y4, y5, y6, y7, y8, y9]) := (AL.keep c163 K166 (ninS ne105 (ninS ne114 nin0)))
  refine sg_in hw a ka b101 B7 B8 (4 : Int32) (12 : Int32) (10 : Int32) (8 : Int32) (Slot.val (.int y7.toInt8.toInt32)) y8 8 (by8 [y0, y1, y2, y3, y4, y5, y6, y7, y8, y9]) C (by decide) (by decide) (by decide) (by decide) (by decide) (by8_get rfl) (One.val rfl) hB8 (by decide) (by decide) (by decide) X166 e166 O168 c169 N166 ?_
  obtain ⟨d12, hd12⟩ : ∃ z, z = (((B8.toUInt32 >>> ((7 : Int32) &&& 31).toUInt32).toInt32) &&& (31 : Int32)) := ⟨_, rfl⟩
  have ud12 := ixv (7 : Int32) 7 128 (by decide) (by decide) (by decide) (by decide) hd12
  have gd12 := c_rng ud12
  have c171 : Exa Z h166 b101 "java/lang/StringBuilder" := (Exa.keep c165 K166)
  refine sg_ch hw a b101 w_103 kw_103 Y12 (16 : Nat) (12 : Nat) (13 : Nat) cP ta tk tb B8 (12 : Int32) (7 : Int32) (10 : Int32) (8 : Int32) y8.toInt8.toInt32 d12 C (by decide) (by decide) (by decide) j166_1 (by decide) rfl hP n_b101 n_w_103 ne109 htb (by decide) (by decide) hd12 gd12 (by decide) (by decide) X166 e166 O168 c171 P166_0 P166_1 P166_2 P166_3 SC ST AT N166 ?_
  intro T172 L172 h172 Y13 X172 e172 K172 j172_0 j172_1 P172_0 P172_1 P172_2 P172_3 N172
  obtain ⟨d13, hd13⟩ : ∃ z, z = (((B8.toUInt32 >>> ((2 : Int32) &&& 31).toUInt32).toInt32) &&& (31 : Int32)) := ⟨_, rfl⟩
  have ud13 := ixv (2 : Int32) 2 4 (by decide) (by decide) (by decide) (by decide) hd13
  have gd13 := c_rng ud13
  have c173 : Exa Z h172 b101 "java/lang/StringBuilder" := (Exa.keep c171 K172)
  have O175 : Ext Z.heap h172 := (Ext.keep O168 K172 (allS n_b101 (allS n_w_103 all0)))
  refine sg_ch hw a b101 w_103 kw_103 Y13 (16 : Nat) (13 : Nat) (14 : Nat) cP ta tk tb B8 (7 : Int32) (2 : Int32) (10 : Int32) (8 : Int32) y8.toInt8.toInt32 d13 C (by decide) (by decide) (by decide) j172_1 (by decide) rfl hP n_b101 n_w_103 ne109 htb (by decide) (by decide) hd13 gd13 (by decide) (by decide) X172 e172 O175 c173 P172_0 P172_1 P172_2 P172_3 SC ST AT N172 ?_
  intro T174 L174 h174 Y14 X174 e174 K174 j174_0 j174_1 P174_0 P174_1 P174_2 P174_3 N174
  have O177 : Ext Z.heap h174 := (Ext.keep O175 K174 (allS n_b101 (allS n_w_103 all0)))
  refine sg_nx hw a b101 B8 (2 : Int32) (10 : Int32) (8 : Int32) (9 : Int32) y8.toInt8.toInt32 C (by decide) (by decide) (by decide) (by decide) (by decide) (by decide) X174 e174 O177  N174 ?_
  obtain ⟨B9, hB9⟩ : ∃ z, z = ((B8 <<< ((8 : Int32) &&& 31)) ||| (y9.toInt8.toInt32 &&& (255 : Int32))) := ⟨_, rfl⟩
  have vB9 := bufv hB9
  have c178 : AL Z h174 a ka .byte (by8 [y0, y1, y2, y3, y4, y5, y6, y7, y8, y9]) := (AL.keep (AL.keep c169 K172 (ninS ne105 (ninS ne114 nin0))) K174 (ninS ne105 (ninS ne114 nin0)))
  refine sg_in hw a ka b101 B8 B9 (2 : Int32) (10 : Int32) (10 : Int32) (9 : Int32) (Slot.val (.int y8.toInt8.toInt32)) y9 9 (by8 [y0, y1, y2, y3, y4, y5, y6, y7, y8, y9]) C (by decide) (by decide) (by decide) (by decide) (by decide) (by8_get rfl) (One.val rfl) hB9 (by decide) (by decide) (by decide) X174 e174 O177 c178 N174 ?_
  obtain ⟨d14, hd14⟩ : ∃ z, z = (((B9.toUInt32 >>> ((5 : Int32) &&& 31).toUInt32).toInt32) &&& (31 : Int32)) := ⟨_, rfl⟩
  have ud14 := ixv (5 : Int32) 5 32 (by decide) (by decide) (by decide) (by decide) hd14
  have gd14 := c_rng ud14
  have c180 : Exa Z h174 b101 "java/lang/StringBuilder" := (Exa.keep c173 K174)
  refine sg_ch hw a b101 w_103 kw_103 Y14 (16 : Nat) (14 : Nat) (15 : Nat) cP ta tk tb B9 (10 : Int32) (5 : Int32) (10 : Int32) (9 : Int32) y9.toInt8.toInt32 d14 C (by decide) (by decide) (by decide) j174_1 (by decide) rfl hP n_b101 n_w_103 ne109 htb (by decide) (by decide) hd14 gd14 (by decide) (by decide) X174 e174 O177 c180 P174_0 P174_1 P174_2 P174_3 SC ST AT N174 ?_
  intro T181 L181 h181 Y15 X181 e181 K181 j181_0 j181_1 P181_0 P181_1 P181_2 P181_3 N181
  obtain ⟨d15, hd15⟩ : ∃ z, z = (((B9.toUInt32 >>> ((0 : Int32) &&& 31).toUInt32).toInt32) &&& (31 : Int32)) := ⟨_, rfl⟩
  have ud15 := ixv0 hd15
  have gd15 := c_rng ud15
  have c182 : Exa Z h181 b101 "java/lang/StringBuilder" := (Exa.keep c180 K181)
  have O184 : Ext Z.heap h181 := (Ext.keep O177 K181 (allS n_b101 (allS n_w_103 all0)))
  refine sg_ch hw a b101 w_103 kw_103 Y15 (16 : Nat) (15 : Nat) (16 : Nat) cP ta tk tb B9 (5 : Int32) (0 : Int32) (10 : Int32) (9 : Int32) y9.toInt8.toInt32 d15 C (by decide) (by decide) (by decide) j181_1 (by decide) rfl hP n_b101 n_w_103 ne109 htb (by decide) (by decide) hd15 gd15 (by decide) (by decide) X181 e181 O184 c182 P181_0 P181_1 P181_2 P181_3 SC ST AT N181 ?_
  intro T183 L183 h183 Y16 X183 e183 K183 j183_0 j183_1 P183_0 P183_1 P183_2 P183_3 N183
  have O186 : Ext Z.heap h183 := (Ext.keep O184 K183 (allS n_b101 (allS n_w_103 all0)))
  refine sg_nx hw a b101 B9 (0 : Int32) (10 : Int32) (9 : Int32) (10 : Int32) y9.toInt8.toInt32 C (by decide) (by decide) (by decide) (by decide) (by decide) (by decide) X183 e183 O186  N183 ?_
  refine Go.iload (pc' := 34) C X183 d9_32 rfl rfl ?_
  refine Go.iload (pc' := 36) C X183 d9_34 rfl rfl ?_
  refine Go.icmpYes (pc' := 93) C X183 d9_36 (flt (x := (10 : Int32)) (y := (10 : Int32)) (by decide)).2.1 (by decide) (by decide) ?_
  refine Go.iloadN (pc' := 94) C X183 d9_93 rfl rfl ?_
  refine Go.ifYes (pc' := 114) C X183 d9_94 ((if0 _ _).trans (flt (x := (0 : Int32)) (y := (0 : Int32)) (by decide)).2.2.2) (by decide) (by decide) ?_
  refine Go.aloadN (pc' := 115) C X183 d9_114 rfl rfl rfl ?_
  have c190 : Exa Z h183 b101 "java/lang/StringBuilder" := (Exa.keep c182 K183)
  refine Go.callV (y := mN22) (z := mN22) (a := b101) (pc' := 118) C X183 (tw hw 63 rfl) (tw hw 64 rfl) (notFace_at C.2.1 (tw hw 66 rfl)) (tw hw 66 rfl) (tw hw 65 rfl) c190 (by decide) (rm_sbl l Z a0 hw b101 ((16 : Nat).toInt32) h183 O186 c190 P183_2) (tw hw 67 rfl) (tw hw 45 rfl) e183 (argsL := []) (rest := []) (W := 0) rfl rfl pd_6 rfl (Nat.le_of_eq rfl) rfl (by decide) (by decide) (by decide) (by decide) d9_115 rfl ?_
  intro T189 v189 L189 X189 q189
  obtain ⟨rfl, rfl, e189⟩ := q189
  have N189 := Fr.app N183 (Fr.nil _)
  rw [show (16 : Nat).toInt32 = (16 : Int32) from rfl]
  refine Go.bipush (z := (8 : Int32)) (pc' := 120) C X189 d9_118 rfl rfl ?_
  refine Go.irem (pc' := 121) C X189 d9_120 (by decide) rfl ?_
  rw [show ((16 : Int32) % (8 : Int32)) = (0 : Int32) from by decide]
  refine Go.ifYes (pc' := 134) C X189 d9_121 ((if0 _ _).trans (teq (x := (0 : Int32)) (y := (0 : Int32)) (by decide)).1) (by decide) (by decide) ?_
  have ctE : Fld Z h183 b101 "java/lang/AbstractStringBuilder" "count" "I" (.int Y16.length.toInt32) := by rw [j183_1]; exact P183_2
  refine Go.aloadN (pc' := 135) C X189 d9_134 rfl rfl rfl ?_
  have c193 : Exa Z h183 w_103 "[B" := (Exa.keep (Exa.keep (Exa.keep (Exa.keep (Exa.keep (Exa.keep (Exa.keep (Exa.keep (Exa.keep (Exa.keep (Exa.keep (Exa.keep (Exa.keep (Exa.keep (Exa.keep (Exa.keep P103_3 K111) K118) K120) K127) K133) K135) K142) K144) K151) K157) K159) K166) K172) K174) K181) K183)
  refine Go.callV (y := mN23) (z := mN23) (a := b101) (pc' := 138) C X189 (tw hw 75 rfl) (tw hw 76 rfl) (notFace_at C.2.1 (tw hw 78 rfl)) (tw hw 78 rfl) (tw hw 77 rfl) c190 (by decide) (rm_tos l Z a0 hw b101 w_103 kw_103 Y16 cP h183 O186 c190 P183_0 P183_1 ctE c193 P183_3 SC (by rw [j183_1]; decide) hP) (tw hw 79 rfl) (tw hw 45 rfl) e189 (argsL := []) (rest := []) (W := 0) rfl rfl pd_18 rfl (Nat.le_of_eq rfl) rfl (by decide) (by decide) (by decide) (by decide) d9_135 rfl ?_
  intro T192 v192 L192 X192 q192
  obtain ⟨s1_192, v_192, kv_192, rfl, N192q, K192, B192_0, B192_1, P192_0, P192_1, P192_2, P192_3⟩ := q192
  have N192 := Fr.app N189 N192q
  have n_s1_192 : Z.heap.size ≤ s1_192 := Nat.le_trans O186.1 B192_0
  have z_s1_192 : h0.size ≤ s1_192 := Nat.le_trans (Nat.le_trans (Nat.le_trans (Nat.le_trans (Nat.le_trans (Nat.le_trans (Nat.le_trans (Nat.le_trans (Nat.le_trans (Nat.le_trans (Nat.le_trans (Nat.le_trans (Nat.le_trans (Nat.le_trans (Nat.le_trans (Nat.le_trans (Nat.le_trans (Nat.le_trans (Nat.le_trans (Nat.le_refl _) E101.1) K103.1) K111.1) K118.1) K120.1) K127.1) K133.1) K135.1) K142.1) K144.1) K151.1) K157.1) K159.1) K166.1) K172.1) K174.1) K181.1) K183.1) B192_0
  have n_v_192 : Z.heap.size ≤ v_192 := Nat.le_trans O186.1 B192_1
  have z_v_192 : h0.size ≤ v_192 := Nat.le_trans (Nat.le_trans (Nat.le_trans (Nat.le_trans (Nat.le_trans (Nat.le_trans (Nat.le_trans (Nat.le_trans (Nat.le_trans (Nat.le_trans (Nat.le_trans (Nat.le_trans (Nat.le_trans (Nat.le_trans (Nat.le_trans (Nat.le_trans (Nat.le_trans (Nat.le_trans (Nat.le_trans (Nat.le_refl _) E101.1) K103.1) K111.1) K118.1) K120.1) K127.1) K133.1) K135.1) K142.1) K144.1) K151.1) K157.1) K159.1) K166.1) K172.1) K174.1) K181.1) K183.1) B192_1
  have K194 : Keep h0 T192.heap [] := ((((((((((((((((((((Keep.refl h0 []).ext E101).trans K103 (allS (Or.inr z_b101) all0)).trans K111 (allS (Or.inr z_b101) (allS (Or.inr z_w_103) all0))).trans K118 (allS (Or.inr z_b101) (allS (Or.inr z_w_103) all0))).trans K120 (allS (Or.inr z_b101) (allS (Or.inr z_w_103) all0))).trans K127 (allS (Or.inr z_b101) (allS (Or.inr z_w_103) all0))).trans K133 (allS (Or.inr z_b101) (allS (Or.inr z_w_103) all0))).trans K135 (allS (Or.inr z_b101) (allS (Or.inr z_w_103) all0))).trans K142 (allS (Or.inr z_b101) (allS (Or.inr z_w_103) all0))).trans K144 (allS (Or.inr z_b101) (allS (Or.inr z_w_103) all0))).trans K151 (allS (Or.inr z_b101) (allS (Or.inr z_w_103) all0))).trans K157 (allS (Or.inr z_b101) (allS (Or.inr z_w_103) all0))).trans K159 (allS (Or.inr z_b101) (allS (Or.inr z_w_103) all0))).trans K166 (allS (Or.inr z_b101) (allS (Or.inr z_w_103) all0))).trans K172 (allS (Or.inr z_b101) (allS (Or.inr z_w_103) all0))).trans K174 (allS (Or.inr z_b101) (allS (Or.inr z_w_103) all0))).trans K181 (allS (Or.inr z_b101) (allS (Or.inr z_w_103) all0))).trans K183 (allS (Or.inr z_b101) (allS (Or.inr z_w_103) all0))).trans K192 all0)
  exact Go.retA C X192 rfl d9_138 rfl rfl rfl ⟨s1_192, v_192, kv_192, d0, d1, d2, d3, d4, d5, d6, d7, d8, d9, d10, d11, d12, d13, d14, d15, rfl, N192, K194, z_s1_192, z_v_192, P192_0, P192_1, P192_2, (by have q := P192_3; rw [j183_0, j181_0, j174_0, j172_0, j166_0, j159_0, j157_0, j151_0, j144_0, j142_0, j135_0, j133_0, j127_0, j120_0, j118_0, j111_0] at q; exact q), (qv ud0 vB0 p0z), (qv ud1 vB1 (bufw vB0)), (qv ud2 vB1 (bufw vB0)), (qv ud3 vB2 (bufw vB1)), (qv ud4 vB3 (bufw vB2)), (qv ud5 vB3 (bufw vB2)), (qv ud6 vB4 (bufw vB3)), (qv ud7 vB4 (bufw vB3)), (qv ud8 vB5 (bufw vB4)), (qv ud9 vB6 (bufw vB5)), (qv ud10 vB6 (bufw vB5)), (qv ud11 vB7 (bufw vB6)), (qv ud12 vB8 (bufw vB7)), (qv ud13 vB8 (bufw vB7)), (qv ud14 vB9 (bufw vB8)), (qv ud15 vB9 (bufw vB8))⟩ (by decide) (by decide)
theorem msk (p : Int64) : 0 ≤ (p &&& (1099511627775 : Int64)).toInt ∧ (p &&& (1099511627775 : Int64)).toInt < 1099511627776 := by
  have h := c_maskL p (1099511627775 : Int64) 40 (by decide) (by decide)
  omega
theorem chI_y {w : Int64} {k y : Int32} (q : Int32) (h : k < sgI y) (hq : (35 : Int32) - ((5 : Int32) * k) = q) : chI w k y = alf (ix w q) := by
  subst hq; exact if_pos h
theorem chI_n {w : Int64} {k y : Int32} (h : ¬ k < sgI y) : chI w k y = 61 := if_neg h
theorem ush0 (x : Int64) : (x.toUInt64 >>> ((0 : Int32) &&& 0x3f).toInt64.toUInt64).toInt64 = x := by
  apply Int64.toBitVec_inj.mp; simp
theorem btv32 (p : Int64) : (bt p (32 : Int32)).toInt % 256 = (p &&& (1099511627775 : Int64)).toInt / 4294967296 % 256 := by
  have g := c_maskL p (1099511627775 : Int64) 40 (by decide) (by decide)
  unfold bt
  have a := c_lushr p (32 : Int32) 32 (by decide) (by decide)
  generalize ((p.toUInt64 >>> ((32 : Int32) &&& 0x3f).toInt64.toUInt64).toInt64) = z at *
  have b := c_l2i z
  omega
theorem btv24 (p : Int64) : (bt p (24 : Int32)).toInt % 256 = (p &&& (1099511627775 : Int64)).toInt / 16777216 % 256 := by
  have g := c_maskL p (1099511627775 : Int64) 40 (by decide) (by decide)
  unfold bt
  have a := c_lushr p (24 : Int32) 24 (by decide) (by decide)
  generalize ((p.toUInt64 >>> ((24 : Int32) &&& 0x3f).toInt64.toUInt64).toInt64) = z at *
  have b := c_l2i z
  omega
theorem btv16 (p : Int64) : (bt p (16 : Int32)).toInt % 256 = (p &&& (1099511627775 : Int64)).toInt / 65536 % 256 := by
  have g := c_maskL p (1099511627775 : Int64) 40 (by decide) (by decide)
  unfold bt
  have a := c_lushr p (16 : Int32) 16 (by decide) (by decide)
  generalize ((p.toUInt64 >>> ((16 : Int32) &&& 0x3f).toInt64.toUInt64).toInt64) = z at *
  have b := c_l2i z
  omega
theorem btv8 (p : Int64) : (bt p (8 : Int32)).toInt % 256 = (p &&& (1099511627775 : Int64)).toInt / 256 % 256 := by
  have g := c_maskL p (1099511627775 : Int64) 40 (by decide) (by decide)
  unfold bt
  have a := c_lushr p (8 : Int32) 8 (by decide) (by decide)
  generalize ((p.toUInt64 >>> ((8 : Int32) &&& 0x3f).toInt64.toUInt64).toInt64) = z at *
  have b := c_l2i z
  omega
theorem btv0 (p : Int64) : (bt p (0 : Int32)).toInt % 256 = (p &&& (1099511627775 : Int64)).toInt / 1 % 256 := by
  have g := c_maskL p (1099511627775 : Int64) 40 (by decide) (by decide)
  unfold bt
  rw [ush0]
  have b := c_l2i p
  omega
theorem ixk35 (K : Int64) (h : 0 ≤ K.toInt ∧ K.toInt < 1099511627776) : (ix K (35 : Int32)).toInt = K.toInt / 34359738368 % 32 := by
  unfold ix
  have a := c_lushr K (35 : Int32) 35 (by decide) (by decide)
  generalize ((K.toUInt64 >>> ((35 : Int32) &&& 0x3f).toInt64.toUInt64).toInt64) = z at *
  have g := c_maskL z (31 : Int64) 5 (by decide) (by decide)
  have b := c_l2i (z &&& (31 : Int64))
  have r := rng32 (z &&& (31 : Int64)).toInt32
  omega
theorem ixk30 (K : Int64) (h : 0 ≤ K.toInt ∧ K.toInt < 1099511627776) : (ix K (30 : Int32)).toInt = K.toInt / 1073741824 % 32 := by
  unfold ix
  have a := c_lushr K (30 : Int32) 30 (by decide) (by decide)
  generalize ((K.toUInt64 >>> ((30 : Int32) &&& 0x3f).toInt64.toUInt64).toInt64) = z at *
  have g := c_maskL z (31 : Int64) 5 (by decide) (by decide)
  have b := c_l2i (z &&& (31 : Int64))
  have r := rng32 (z &&& (31 : Int64)).toInt32
  omega
theorem ixk25 (K : Int64) (h : 0 ≤ K.toInt ∧ K.toInt < 1099511627776) : (ix K (25 : Int32)).toInt = K.toInt / 33554432 % 32 := by
  unfold ix
  have a := c_lushr K (25 : Int32) 25 (by decide) (by decide)
  generalize ((K.toUInt64 >>> ((25 : Int32) &&& 0x3f).toInt64.toUInt64).toInt64) = z at *
  have g := c_maskL z (31 : Int64) 5 (by decide) (by decide)
  have b := c_l2i (z &&& (31 : Int64))
  have r := rng32 (z &&& (31 : Int64)).toInt32
  omega
theorem ixk20 (K : Int64) (h : 0 ≤ K.toInt ∧ K.toInt < 1099511627776) : (ix K (20 : Int32)).toInt = K.toInt / 1048576 % 32 := by
  unfold ix
  have a := c_lushr K (20 : Int32) 20 (by decide) (by decide)
  generalize ((K.toUInt64 >>> ((20 : Int32) &&& 0x3f).toInt64.toUInt64).toInt64) = z at *
  have g := c_maskL z (31 : Int64) 5 (by decide) (by decide)
  have b := c_l2i (z &&& (31 : Int64))
  have r := rng32 (z &&& (31 : Int64)).toInt32
  omega
theorem ixk15 (K : Int64) (h : 0 ≤ K.toInt ∧ K.toInt < 1099511627776) : (ix K (15 : Int32)).toInt = K.toInt / 32768 % 32 := by
  unfold ix
  have a := c_lushr K (15 : Int32) 15 (by decide) (by decide)
  generalize ((K.toUInt64 >>> ((15 : Int32) &&& 0x3f).toInt64.toUInt64).toInt64) = z at *
  have g := c_maskL z (31 : Int64) 5 (by decide) (by decide)
  have b := c_l2i (z &&& (31 : Int64))
  have r := rng32 (z &&& (31 : Int64)).toInt32
  omega
theorem ixk10 (K : Int64) (h : 0 ≤ K.toInt ∧ K.toInt < 1099511627776) : (ix K (10 : Int32)).toInt = K.toInt / 1024 % 32 := by
  unfold ix
  have a := c_lushr K (10 : Int32) 10 (by decide) (by decide)
  generalize ((K.toUInt64 >>> ((10 : Int32) &&& 0x3f).toInt64.toUInt64).toInt64) = z at *
  have g := c_maskL z (31 : Int64) 5 (by decide) (by decide)
  have b := c_l2i (z &&& (31 : Int64))
  have r := rng32 (z &&& (31 : Int64)).toInt32
  omega
theorem ixk5 (K : Int64) (h : 0 ≤ K.toInt ∧ K.toInt < 1099511627776) : (ix K (5 : Int32)).toInt = K.toInt / 32 % 32 := by
  unfold ix
  have a := c_lushr K (5 : Int32) 5 (by decide) (by decide)
  generalize ((K.toUInt64 >>> ((5 : Int32) &&& 0x3f).toInt64.toUInt64).toInt64) = z at *
  have g := c_maskL z (31 : Int64) 5 (by decide) (by decide)
  have b := c_l2i (z &&& (31 : Int64))
  have r := rng32 (z &&& (31 : Int64)).toInt32
  omega
theorem ixk0 (K : Int64) (h : 0 ≤ K.toInt ∧ K.toInt < 1099511627776) : (ix K (0 : Int32)).toInt = K.toInt / 1 % 32 := by
  unfold ix
  rw [ush0]
  obtain ⟨z, hz⟩ : ∃ z, z = K := ⟨_, rfl⟩
  rw [← hz] at h ⊢
  have g := c_maskL z (31 : Int64) 5 (by decide) (by decide)
  have b := c_l2i (z &&& (31 : Int64))
  have r := rng32 (z &&& (31 : Int64)).toInt32
  omega
theorem dig (p : Int64) : ∃ B0 B1 B2 B3 B4 : Int, (p &&& (1099511627775 : Int64)).toInt = B0 * 4294967296 + B1 * 16777216 + B2 * 65536 + B3 * 256 + B4 ∧ (0 ≤ B0 ∧ B0 < 256) ∧ (0 ≤ B1 ∧ B1 < 256) ∧ (0 ≤ B2 ∧ B2 < 256) ∧ (0 ≤ B3 ∧ B3 < 256) ∧ (0 ≤ B4 ∧ B4 < 256) ∧ (bt p (32 : Int32)).toInt % 256 = B0 ∧ (bt p (24 : Int32)).toInt % 256 = B1 ∧ (bt p (16 : Int32)).toInt % 256 = B2 ∧ (bt p (8 : Int32)).toInt % 256 = B3 ∧ (bt p (0 : Int32)).toInt % 256 = B4 := by
  refine ⟨_, _, _, _, _, ?_, ?_, ?_, ?_, ?_, ?_, btv32 p, btv24 p, btv16 p, btv8 p, btv0 p⟩
  all_goals have h := msk p
  all_goals omega
theorem grp1 {p K : Int64} (u : Int) (hK : K.toInt = (p &&& (1099511627775 : Int64)).toInt / 4294967296 * 4294967296) {c0 c1 : Int32} (g0 : c0.toInt = ((u) * 256 + (bt p (32 : Int32)).toInt % 256) / 8 % 32) (g1 : c1.toInt = ((bt p (32 : Int32)).toInt % 256) * 4 % 32) :
    chI K (0 : Int32) (1 : Int32) = alf c0 ∧ chI K (1 : Int32) (1 : Int32) = alf c1 ∧ chI K (2 : Int32) (1 : Int32) = 61 ∧ chI K (3 : Int32) (1 : Int32) = 61 ∧ chI K (4 : Int32) (1 : Int32) = 61 ∧ chI K (5 : Int32) (1 : Int32) = 61 ∧ chI K (6 : Int32) (1 : Int32) = 61 ∧ chI K (7 : Int32) (1 : Int32) = 61 := by
  obtain ⟨B0, B1, B2, B3, B4, e, b0, b1, b2, b3, b4, f0, f1, f2, f3, f4⟩ := dig p
  rw [e] at hK
  have k0 : K.toInt = B0 * 4294967296 := by clear g0 g1 f0 f1 f2 f3 f4; omega
  clear hK e
  have kr : 0 ≤ K.toInt ∧ K.toInt < 1099511627776 := by clear g0 g1 f0 f1 f2 f3 f4; omega
  have x0 : c0 = ix K (35 : Int32) := by
    apply Int32.toInt_inj.mp
    rw [g0, ixk35 K kr, k0]
    clear g0 g1 kr k0 f1 f2 f3 f4
    omega
  have x1 : c1 = ix K (30 : Int32) := by
    apply Int32.toInt_inj.mp
    rw [g1, ixk30 K kr, k0]
    clear g0 g1 x0 kr k0 f1 f2 f3 f4
    omega
  refine ⟨by rw [chI_y (35 : Int32) (by decide) (by decide), x0], by rw [chI_y (30 : Int32) (by decide) (by decide), x1], chI_n (by decide), chI_n (by decide), chI_n (by decide), chI_n (by decide), chI_n (by decide), chI_n (by decide)⟩
theorem grp2 {p K : Int64} (u : Int) (hK : K.toInt = (p &&& (1099511627775 : Int64)).toInt / 16777216 * 16777216) {c0 c1 c2 c3 : Int32} (g0 : c0.toInt = ((u) * 256 + (bt p (32 : Int32)).toInt % 256) / 8 % 32) (g1 : c1.toInt = (((bt p (32 : Int32)).toInt % 16) * 256 + (bt p (24 : Int32)).toInt % 256) / 64 % 32) (g2 : c2.toInt = (((bt p (32 : Int32)).toInt % 16) * 256 + (bt p (24 : Int32)).toInt % 256) / 2 % 32) (g3 : c3.toInt = ((bt p (24 : Int32)).toInt % 256) * 16 % 32) :
    chI K (0 : Int32) (2 : Int32) = alf c0 ∧ chI K (1 : Int32) (2 : Int32) = alf c1 ∧ chI K (2 : Int32) (2 : Int32) = alf c2 ∧ chI K (3 : Int32) (2 : Int32) = alf c3 ∧ chI K (4 : Int32) (2 : Int32) = 61 ∧ chI K (5 : Int32) (2 : Int32) = 61 ∧ chI K (6 : Int32) (2 : Int32) = 61 ∧ chI K (7 : Int32) (2 : Int32) = 61 := by
  obtain ⟨B0, B1, B2, B3, B4, e, b0, b1, b2, b3, b4, f0, f1, f2, f3, f4⟩ := dig p
  rw [e] at hK
  have k0 : K.toInt = B0 * 4294967296 + B1 * 16777216 := by clear g0 g1 g2 g3 f0 f1 f2 f3 f4; omega
  clear hK e
  have kr : 0 ≤ K.toInt ∧ K.toInt < 1099511627776 := by clear g0 g1 g2 g3 f0 f1 f2 f3 f4; omega
  have x0 : c0 = ix K (35 : Int32) := by
    apply Int32.toInt_inj.mp
    rw [g0, ixk35 K kr, k0]
    clear g0 g1 g2 g3 kr k0 f1 f2 f3 f4
    omega
  have x1 : c1 = ix K (30 : Int32) := by
    apply Int32.toInt_inj.mp
    rw [g1, ixk30 K kr, k0]
    clear g0 g1 g2 g3 x0 kr k0 f2 f3 f4
    omega
  have x2 : c2 = ix K (25 : Int32) := by
    apply Int32.toInt_inj.mp
    rw [g2, ixk25 K kr, k0]
    clear g0 g1 g2 g3 x0 x1 kr k0 f2 f3 f4
    omega
  have x3 : c3 = ix K (20 : Int32) := by
    apply Int32.toInt_inj.mp
    rw [g3, ixk20 K kr, k0]
    clear g0 g1 g2 g3 x0 x1 x2 kr k0 f0 f2 f3 f4
    omega
  refine ⟨by rw [chI_y (35 : Int32) (by decide) (by decide), x0], by rw [chI_y (30 : Int32) (by decide) (by decide), x1], by rw [chI_y (25 : Int32) (by decide) (by decide), x2], by rw [chI_y (20 : Int32) (by decide) (by decide), x3], chI_n (by decide), chI_n (by decide), chI_n (by decide), chI_n (by decide)⟩
theorem grp3 {p K : Int64} (u : Int) (hK : K.toInt = (p &&& (1099511627775 : Int64)).toInt / 65536 * 65536) {c0 c1 c2 c3 c4 : Int32} (g0 : c0.toInt = ((u) * 256 + (bt p (32 : Int32)).toInt % 256) / 8 % 32) (g1 : c1.toInt = (((bt p (32 : Int32)).toInt % 16) * 256 + (bt p (24 : Int32)).toInt % 256) / 64 % 32) (g2 : c2.toInt = (((bt p (32 : Int32)).toInt % 16) * 256 + (bt p (24 : Int32)).toInt % 256) / 2 % 32) (g3 : c3.toInt = (((bt p (24 : Int32)).toInt % 16) * 256 + (bt p (16 : Int32)).toInt % 256) / 16 % 32) (g4 : c4.toInt = ((bt p (16 : Int32)).toInt % 256) * 2 % 32) :
    chI K (0 : Int32) (3 : Int32) = alf c0 ∧ chI K (1 : Int32) (3 : Int32) = alf c1 ∧ chI K (2 : Int32) (3 : Int32) = alf c2 ∧ chI K (3 : Int32) (3 : Int32) = alf c3 ∧ chI K (4 : Int32) (3 : Int32) = alf c4 ∧ chI K (5 : Int32) (3 : Int32) = 61 ∧ chI K (6 : Int32) (3 : Int32) = 61 ∧ chI K (7 : Int32) (3 : Int32) = 61 := by
  obtain ⟨B0, B1, B2, B3, B4, e, b0, b1, b2, b3, b4, f0, f1, f2, f3, f4⟩ := dig p
  rw [e] at hK
  have k0 : K.toInt = B0 * 4294967296 + B1 * 16777216 + B2 * 65536 := by clear g0 g1 g2 g3 g4 f0 f1 f2 f3 f4; omega
  clear hK e
  have kr : 0 ≤ K.toInt ∧ K.toInt < 1099511627776 := by clear g0 g1 g2 g3 g4 f0 f1 f2 f3 f4; omega
  have x0 : c0 = ix K (35 : Int32) := by
    apply Int32.toInt_inj.mp
    rw [g0, ixk35 K kr, k0]
    clear g0 g1 g2 g3 g4 kr k0 f1 f2 f3 f4
    omega
  have x1 : c1 = ix K (30 : Int32) := by
    apply Int32.toInt_inj.mp
    rw [g1, ixk30 K kr, k0]
    clear g0 g1 g2 g3 g4 x0 kr k0 f2 f3 f4
    omega
  have x2 : c2 = ix K (25 : Int32) := by
    apply Int32.toInt_inj.mp
    rw [g2, ixk25 K kr, k0]
    clear g0 g1 g2 g3 g4 x0 x1 kr k0 f2 f3 f4
    omega
  have x3 : c3 = ix K (20 : Int32) := by
    apply Int32.toInt_inj.mp
    rw [g3, ixk20 K kr, k0]
    clear g0 g1 g2 g3 g4 x0 x1 x2 kr k0 f0 f3 f4
    omega
  have x4 : c4 = ix K (15 : Int32) := by
    apply Int32.toInt_inj.mp
    rw [g4, ixk15 K kr, k0]
    clear g0 g1 g2 g3 g4 x0 x1 x2 x3 kr k0 f0 f1 f3 f4
    omega
  refine ⟨by rw [chI_y (35 : Int32) (by decide) (by decide), x0], by rw [chI_y (30 : Int32) (by decide) (by decide), x1], by rw [chI_y (25 : Int32) (by decide) (by decide), x2], by rw [chI_y (20 : Int32) (by decide) (by decide), x3], by rw [chI_y (15 : Int32) (by decide) (by decide), x4], chI_n (by decide), chI_n (by decide), chI_n (by decide)⟩
theorem grp4 {p K : Int64} (u : Int) (hK : K.toInt = (p &&& (1099511627775 : Int64)).toInt / 256 * 256) {c0 c1 c2 c3 c4 c5 c6 : Int32} (g0 : c0.toInt = ((u) * 256 + (bt p (32 : Int32)).toInt % 256) / 8 % 32) (g1 : c1.toInt = (((bt p (32 : Int32)).toInt % 16) * 256 + (bt p (24 : Int32)).toInt % 256) / 64 % 32) (g2 : c2.toInt = (((bt p (32 : Int32)).toInt % 16) * 256 + (bt p (24 : Int32)).toInt % 256) / 2 % 32) (g3 : c3.toInt = (((bt p (24 : Int32)).toInt % 16) * 256 + (bt p (16 : Int32)).toInt % 256) / 16 % 32) (g4 : c4.toInt = (((bt p (16 : Int32)).toInt % 16) * 256 + (bt p (8 : Int32)).toInt % 256) / 128 % 32) (g5 : c5.toInt = (((bt p (16 : Int32)).toInt % 16) * 256 + (bt p (8 : Int32)).toInt % 256) / 4 % 32) (g6 : c6.toInt = ((bt p (8 : Int32)).toInt % 256) * 8 % 32) :
    chI K (0 : Int32) (4 : Int32) = alf c0 ∧ chI K (1 : Int32) (4 : Int32) = alf c1 ∧ chI K (2 : Int32) (4 : Int32) = alf c2 ∧ chI K (3 : Int32) (4 : Int32) = alf c3 ∧ chI K (4 : Int32) (4 : Int32) = alf c4 ∧ chI K (5 : Int32) (4 : Int32) = alf c5 ∧ chI K (6 : Int32) (4 : Int32) = alf c6 ∧ chI K (7 : Int32) (4 : Int32) = 61 := by
  obtain ⟨B0, B1, B2, B3, B4, e, b0, b1, b2, b3, b4, f0, f1, f2, f3, f4⟩ := dig p
  rw [e] at hK
  have k0 : K.toInt = B0 * 4294967296 + B1 * 16777216 + B2 * 65536 + B3 * 256 := by clear g0 g1 g2 g3 g4 g5 g6 f0 f1 f2 f3 f4; omega
  clear hK e
  have kr : 0 ≤ K.toInt ∧ K.toInt < 1099511627776 := by clear g0 g1 g2 g3 g4 g5 g6 f0 f1 f2 f3 f4; omega
  have x0 : c0 = ix K (35 : Int32) := by
    apply Int32.toInt_inj.mp
    rw [g0, ixk35 K kr, k0]
    clear g0 g1 g2 g3 g4 g5 g6 kr k0 f1 f2 f3 f4
    omega
  have x1 : c1 = ix K (30 : Int32) := by
    apply Int32.toInt_inj.mp
    rw [g1, ixk30 K kr, k0]
    clear g0 g1 g2 g3 g4 g5 g6 x0 kr k0 f2 f3 f4
    omega
  have x2 : c2 = ix K (25 : Int32) := by
    apply Int32.toInt_inj.mp
    rw [g2, ixk25 K kr, k0]
    clear g0 g1 g2 g3 g4 g5 g6 x0 x1 kr k0 f2 f3 f4
    omega
  have x3 : c3 = ix K (20 : Int32) := by
    apply Int32.toInt_inj.mp
    rw [g3, ixk20 K kr, k0]
    clear g0 g1 g2 g3 g4 g5 g6 x0 x1 x2 kr k0 f0 f3 f4
    omega
  have x4 : c4 = ix K (15 : Int32) := by
    apply Int32.toInt_inj.mp
    rw [g4, ixk15 K kr, k0]
    clear g0 g1 g2 g3 g4 g5 g6 x0 x1 x2 x3 kr k0 f0 f1 f4
    omega
  have x5 : c5 = ix K (10 : Int32) := by
    apply Int32.toInt_inj.mp
    rw [g5, ixk10 K kr, k0]
    clear g0 g1 g2 g3 g4 g5 g6 x0 x1 x2 x3 x4 kr k0 f0 f1 f4
    omega
  have x6 : c6 = ix K (5 : Int32) := by
    apply Int32.toInt_inj.mp
    rw [g6, ixk5 K kr, k0]
    clear g0 g1 g2 g3 g4 g5 g6 x0 x1 x2 x3 x4 x5 kr k0 f0 f1 f2 f4
    omega
  refine ⟨by rw [chI_y (35 : Int32) (by decide) (by decide), x0], by rw [chI_y (30 : Int32) (by decide) (by decide), x1], by rw [chI_y (25 : Int32) (by decide) (by decide), x2], by rw [chI_y (20 : Int32) (by decide) (by decide), x3], by rw [chI_y (15 : Int32) (by decide) (by decide), x4], by rw [chI_y (10 : Int32) (by decide) (by decide), x5], by rw [chI_y (5 : Int32) (by decide) (by decide), x6], chI_n (by decide)⟩
theorem grp5 {p K : Int64} (u : Int) (hK : K.toInt = (p &&& (1099511627775 : Int64)).toInt / 1 * 1) {c0 c1 c2 c3 c4 c5 c6 c7 : Int32} (g0 : c0.toInt = ((u) * 256 + (bt p (32 : Int32)).toInt % 256) / 8 % 32) (g1 : c1.toInt = (((bt p (32 : Int32)).toInt % 16) * 256 + (bt p (24 : Int32)).toInt % 256) / 64 % 32) (g2 : c2.toInt = (((bt p (32 : Int32)).toInt % 16) * 256 + (bt p (24 : Int32)).toInt % 256) / 2 % 32) (g3 : c3.toInt = (((bt p (24 : Int32)).toInt % 16) * 256 + (bt p (16 : Int32)).toInt % 256) / 16 % 32) (g4 : c4.toInt = (((bt p (16 : Int32)).toInt % 16) * 256 + (bt p (8 : Int32)).toInt % 256) / 128 % 32) (g5 : c5.toInt = (((bt p (16 : Int32)).toInt % 16) * 256 + (bt p (8 : Int32)).toInt % 256) / 4 % 32) (g6 : c6.toInt = (((bt p (8 : Int32)).toInt % 16) * 256 + (bt p (0 : Int32)).toInt % 256) / 32 % 32) (g7 : c7.toInt = (((bt p (8 : Int32)).toInt % 16) * 256 + (bt p (0 : Int32)).toInt % 256) / 1 % 32) :
    chI K (0 : Int32) (5 : Int32) = alf c0 ∧ chI K (1 : Int32) (5 : Int32) = alf c1 ∧ chI K (2 : Int32) (5 : Int32) = alf c2 ∧ chI K (3 : Int32) (5 : Int32) = alf c3 ∧ chI K (4 : Int32) (5 : Int32) = alf c4 ∧ chI K (5 : Int32) (5 : Int32) = alf c5 ∧ chI K (6 : Int32) (5 : Int32) = alf c6 ∧ chI K (7 : Int32) (5 : Int32) = alf c7 := by
  obtain ⟨B0, B1, B2, B3, B4, e, b0, b1, b2, b3, b4, f0, f1, f2, f3, f4⟩ := dig p
  rw [e] at hK
  have k0 : K.toInt = B0 * 4294967296 + B1 * 16777216 + B2 * 65536 + B3 * 256 + B4 * 1 := by clear g0 g1 g2 g3 g4 g5 g6 g7 f0 f1 f2 f3 f4; omega
  clear hK e
  have kr : 0 ≤ K.toInt ∧ K.toInt < 1099511627776 := by clear g0 g1 g2 g3 g4 g5 g6 g7 f0 f1 f2 f3 f4; omega
  have x0 : c0 = ix K (35 : Int32) := by
    apply Int32.toInt_inj.mp
    rw [g0, ixk35 K kr, k0]
    clear g0 g1 g2 g3 g4 g5 g6 g7 kr k0 f1 f2 f3 f4
    omega
  have x1 : c1 = ix K (30 : Int32) := by
    apply Int32.toInt_inj.mp
    rw [g1, ixk30 K kr, k0]
    clear g0 g1 g2 g3 g4 g5 g6 g7 x0 kr k0 f2 f3 f4
    omega
  have x2 : c2 = ix K (25 : Int32) := by
    apply Int32.toInt_inj.mp
    rw [g2, ixk25 K kr, k0]
    clear g0 g1 g2 g3 g4 g5 g6 g7 x0 x1 kr k0 f2 f3 f4
    omega
  have x3 : c3 = ix K (20 : Int32) := by
    apply Int32.toInt_inj.mp
    rw [g3, ixk20 K kr, k0]
    clear g0 g1 g2 g3 g4 g5 g6 g7 x0 x1 x2 kr k0 f0 f3 f4
    omega
  have x4 : c4 = ix K (15 : Int32) := by
    apply Int32.toInt_inj.mp
    rw [g4, ixk15 K kr, k0]
    clear g0 g1 g2 g3 g4 g5 g6 g7 x0 x1 x2 x3 kr k0 f0 f1 f4
    omega
  have x5 : c5 = ix K (10 : Int32) := by
    apply Int32.toInt_inj.mp
    rw [g5, ixk10 K kr, k0]
    clear g0 g1 g2 g3 g4 g5 g6 g7 x0 x1 x2 x3 x4 kr k0 f0 f1 f4
    omega
  have x6 : c6 = ix K (5 : Int32) := by
    apply Int32.toInt_inj.mp
    rw [g6, ixk5 K kr, k0]
    clear g0 g1 g2 g3 g4 g5 g6 g7 x0 x1 x2 x3 x4 x5 kr k0 f0 f1 f2
    omega
  have x7 : c7 = ix K (0 : Int32) := by
    apply Int32.toInt_inj.mp
    rw [g7, ixk0 K kr, k0]
    clear g0 g1 g2 g3 g4 g5 g6 g7 x0 x1 x2 x3 x4 x5 x6 kr k0 f0 f1 f2
    omega
  refine ⟨by rw [chI_y (35 : Int32) (by decide) (by decide), x0], by rw [chI_y (30 : Int32) (by decide) (by decide), x1], by rw [chI_y (25 : Int32) (by decide) (by decide), x2], by rw [chI_y (20 : Int32) (by decide) (by decide), x3], by rw [chI_y (15 : Int32) (by decide) (by decide), x4], by rw [chI_y (10 : Int32) (by decide) (by decide), x5], by rw [chI_y (5 : Int32) (by decide) (by decide), x6], by rw [chI_y (0 : Int32) (by decide) (by decide), x7]⟩
def KR (nn : Nat) (z5 k1 k2 : Int32) (w1 w2 K1 K2 : Int64) : Prop := (nn = 0 ∧ z5 = (0 : Int32) ∧ k1 = (0 : Int32) ∧ k2 = (0 : Int32) ∧ K1.toInt = w1.toInt / 1099511627776 * 1099511627776 ∧ K2.toInt = w2.toInt / 1099511627776 * 1099511627776) ∨ (nn = 1 ∧ z5 = (1 : Int32) ∧ k1 = (1 : Int32) ∧ k2 = (0 : Int32) ∧ K1.toInt = w1.toInt / 4294967296 * 4294967296 ∧ K2.toInt = w2.toInt / 1099511627776 * 1099511627776) ∨ (nn = 2 ∧ z5 = (2 : Int32) ∧ k1 = (2 : Int32) ∧ k2 = (0 : Int32) ∧ K1.toInt = w1.toInt / 16777216 * 16777216 ∧ K2.toInt = w2.toInt / 1099511627776 * 1099511627776) ∨ (nn = 3 ∧ z5 = (3 : Int32) ∧ k1 = (3 : Int32) ∧ k2 = (0 : Int32) ∧ K1.toInt = w1.toInt / 65536 * 65536 ∧ K2.toInt = w2.toInt / 1099511627776 * 1099511627776) ∨ (nn = 4 ∧ z5 = (4 : Int32) ∧ k1 = (4 : Int32) ∧ k2 = (0 : Int32) ∧ K1.toInt = w1.toInt / 256 * 256 ∧ K2.toInt = w2.toInt / 1099511627776 * 1099511627776) ∨ (nn = 5 ∧ z5 = (5 : Int32) ∧ k1 = (5 : Int32) ∧ k2 = (0 : Int32) ∧ K1.toInt = w1.toInt / 1 * 1 ∧ K2.toInt = w2.toInt / 1099511627776 * 1099511627776) ∨ (nn = 6 ∧ z5 = (6 : Int32) ∧ k1 = (5 : Int32) ∧ k2 = (1 : Int32) ∧ K1.toInt = w1.toInt / 1 * 1 ∧ K2.toInt = w2.toInt / 4294967296 * 4294967296) ∨ (nn = 7 ∧ z5 = (7 : Int32) ∧ k1 = (5 : Int32) ∧ k2 = (2 : Int32) ∧ K1.toInt = w1.toInt / 1 * 1 ∧ K2.toInt = w2.toInt / 16777216 * 16777216) ∨ (nn = 8 ∧ z5 = (8 : Int32) ∧ k1 = (5 : Int32) ∧ k2 = (3 : Int32) ∧ K1.toInt = w1.toInt / 1 * 1 ∧ K2.toInt = w2.toInt / 65536 * 65536) ∨ (nn = 9 ∧ z5 = (9 : Int32) ∧ k1 = (5 : Int32) ∧ k2 = (4 : Int32) ∧ K1.toInt = w1.toInt / 1 * 1 ∧ K2.toInt = w2.toInt / 256 * 256) ∨ (nn = 10 ∧ z5 = (10 : Int32) ∧ k1 = (5 : Int32) ∧ k2 = (5 : Int32) ∧ K1.toInt = w1.toInt / 1 * 1 ∧ K2.toInt = w2.toInt / 1 * 1)
theorem own_m11 (x : Int32) : ∃ nn : Nat, nn ≤ 10 ∧ (x &&& (2147483647 : Int32)) % (11 : Int32) = nn.toInt32 := by
  have h := c_mask x (2147483647 : Int32) 31 (by decide) (by decide)
  have e : ((x &&& (2147483647 : Int32)) % (11 : Int32)).toInt = (x &&& (2147483647 : Int32)).toInt.tmod 11 := by rw [Int32.toInt_mod]; rfl
  have h0 : 0 ≤ (x &&& (2147483647 : Int32)).toInt := by omega
  rw [Int.tmod_eq_emod_of_nonneg h0] at e
  refine ⟨((x &&& (2147483647 : Int32)).toInt % 11).toNat, by omega, ?_⟩
  apply Int32.toInt_inj.mp
  rw [e, n32_int (by omega)]; omega
theorem own_l10 {n : Nat} (h : n ≤ 10) : n = 0 ∨ n = 1 ∨ n = 2 ∨ n = 3 ∨ n = 4 ∨ n = 5 ∨ n = 6 ∨ n = 7 ∨ n = 8 ∨ n = 9 ∨ n = 10 := by omega
theorem pf_2 : plainFor mN14 = true := Jvm.Free.JP.mathPlain rfl (by decide +kernel)
theorem d2_0 : decode jdk_29_method_69_code 0 = .ok (.iload_n 0, 1) := by decide +kernel
theorem d2_1 : decode jdk_29_method_69_code 1 = .ok (.iload_n 1, 1) := by decide +kernel
theorem d2_2 : decode jdk_29_method_69_code 2 = .ok (.if_icmp .gt 7, 3) := by decide +kernel
theorem d2_5 : decode jdk_29_method_69_code 5 = .ok (.iload_n 0, 1) := by decide +kernel
theorem d2_6 : decode jdk_29_method_69_code 6 = .ok (.goto 4, 3) := by decide +kernel
theorem d2_10 : decode jdk_29_method_69_code 10 = .ok (.ireturn, 1) := by decide +kernel
def Q_min1 (Z : State) (x : Int32) (y : Int32) (h0 : Heap) (rv : Option Value) (h : Heap) (L : List Loc) : Prop := rv = some (.int x) ∧ L = [] ∧ h = h0
theorem rm_min1 (l : Launch) (Z : State) (a0 : Array Value) (hw : ∀ d ∈ tables_1, d.before a0 Z = true) (x : Int32) (y : Int32) (h0 : Heap) (O0 : Ext Z.heap h0) (hxy : ¬ y < x) :
    Met1 l Z mN14 jdk_29_method_69_code 2 (some .int) ({ frames := 0, cells := 0, slots := 0, locals := 0 } : Room) #[(.int x), (.int y)] h0 (Q_min1 Z x y h0) := by
  refine Met1.of_body (Ls := #[.val (.int x), .val (.int y)]) pf_2 (fun m => by first | (simp [entryFrame, mkF, argsToLocals, Value.category]; done) | rfl) ?_
  intro p e s m below meth c T0 C X0 e0
  have N0 : Fr Z.heap.size [] := Fr.nil _
  refine Go.iloadN (pc' := 1) C X0 d2_0 rfl rfl ?_
  refine Go.iloadN (pc' := 2) C X0 d2_1 rfl rfl ?_
  refine Go.icmpNo (pc' := 5) C X0 d2_2 (flt (x := y) (y := x) hxy).2.2.1 rfl ?_
  refine Go.iloadN (pc' := 6) C X0 d2_5 rfl rfl ?_
  refine Go.goto (pc' := 10) C X0 d2_6 (by decide) (by decide) ?_
  exact Go.retI C X0 rfl d2_10 (by rw [e0]; exact ⟨rfl, rfl, rfl⟩) (by decide) (by decide)
theorem d2_9 : decode jdk_29_method_69_code 9 = .ok (.iload_n 1, 1) := by decide +kernel
def Q_min2 (Z : State) (x : Int32) (y : Int32) (h0 : Heap) (rv : Option Value) (h : Heap) (L : List Loc) : Prop := rv = some (.int y) ∧ L = [] ∧ h = h0
theorem rm_min2 (l : Launch) (Z : State) (a0 : Array Value) (hw : ∀ d ∈ tables_1, d.before a0 Z = true) (x : Int32) (y : Int32) (h0 : Heap) (O0 : Ext Z.heap h0) (hxy : y < x) :
    Met1 l Z mN14 jdk_29_method_69_code 2 (some .int) ({ frames := 0, cells := 0, slots := 0, locals := 0 } : Room) #[(.int x), (.int y)] h0 (Q_min2 Z x y h0) := by
  refine Met1.of_body (Ls := #[.val (.int x), .val (.int y)]) pf_2 (fun m => by first | (simp [entryFrame, mkF, argsToLocals, Value.category]; done) | rfl) ?_
  intro p e s m below meth c T0 C X0 e0
  have N0 : Fr Z.heap.size [] := Fr.nil _
  refine Go.iloadN (pc' := 1) C X0 d2_0 rfl rfl ?_
  refine Go.iloadN (pc' := 2) C X0 d2_1 rfl rfl ?_
  refine Go.icmpYes (pc' := 9) C X0 d2_2 (tlt (x := y) (y := x) hxy).2.2.1 (by decide) (by decide) ?_
  refine Go.iloadN (pc' := 10) C X0 d2_9 rfl rfl ?_
  exact Go.retI C X0 rfl d2_10 (by rw [e0]; exact ⟨rfl, rfl, rfl⟩) (by decide) (by decide)
theorem pf_3 : plainFor mN13 = true := Jvm.Free.JP.mathPlain rfl (by decide +kernel)
theorem d3_0 : decode jdk_29_method_65_code 0 = .ok (.iload_n 0, 1) := by decide +kernel
theorem d3_1 : decode jdk_29_method_65_code 1 = .ok (.iload_n 1, 1) := by decide +kernel
theorem d3_2 : decode jdk_29_method_65_code 2 = .ok (.if_icmp .lt 7, 3) := by decide +kernel
theorem d3_5 : decode jdk_29_method_65_code 5 = .ok (.iload_n 0, 1) := by decide +kernel
theorem d3_6 : decode jdk_29_method_65_code 6 = .ok (.goto 4, 3) := by decide +kernel
theorem d3_10 : decode jdk_29_method_65_code 10 = .ok (.ireturn, 1) := by decide +kernel
def Q_max1 (Z : State) (x : Int32) (y : Int32) (h0 : Heap) (rv : Option Value) (h : Heap) (L : List Loc) : Prop := rv = some (.int x) ∧ L = [] ∧ h = h0
theorem rm_max1 (l : Launch) (Z : State) (a0 : Array Value) (hw : ∀ d ∈ tables_1, d.before a0 Z = true) (x : Int32) (y : Int32) (h0 : Heap) (O0 : Ext Z.heap h0) (hxy : ¬ x < y) :
    Met1 l Z mN13 jdk_29_method_65_code 2 (some .int) ({ frames := 0, cells := 0, slots := 0, locals := 0 } : Room) #[(.int x), (.int y)] h0 (Q_max1 Z x y h0) := by
  refine Met1.of_body (Ls := #[.val (.int x), .val (.int y)]) pf_3 (fun m => by first | (simp [entryFrame, mkF, argsToLocals, Value.category]; done) | rfl) ?_
  intro p e s m below meth c T0 C X0 e0
  have N0 : Fr Z.heap.size [] := Fr.nil _
  refine Go.iloadN (pc' := 1) C X0 d3_0 rfl rfl ?_
  refine Go.iloadN (pc' := 2) C X0 d3_1 rfl rfl ?_
  refine Go.icmpNo (pc' := 5) C X0 d3_2 (flt (x := x) (y := y) hxy).1 rfl ?_
  refine Go.iloadN (pc' := 6) C X0 d3_5 rfl rfl ?_
  refine Go.goto (pc' := 10) C X0 d3_6 (by decide) (by decide) ?_
  exact Go.retI C X0 rfl d3_10 (by rw [e0]; exact ⟨rfl, rfl, rfl⟩) (by decide) (by decide)
theorem d3_9 : decode jdk_29_method_65_code 9 = .ok (.iload_n 1, 1) := by decide +kernel
def Q_max2 (Z : State) (x : Int32) (y : Int32) (h0 : Heap) (rv : Option Value) (h : Heap) (L : List Loc) : Prop := rv = some (.int y) ∧ L = [] ∧ h = h0
theorem rm_max2 (l : Launch) (Z : State) (a0 : Array Value) (hw : ∀ d ∈ tables_1, d.before a0 Z = true) (x : Int32) (y : Int32) (h0 : Heap) (O0 : Ext Z.heap h0) (hxy : x < y) :
    Met1 l Z mN13 jdk_29_method_65_code 2 (some .int) ({ frames := 0, cells := 0, slots := 0, locals := 0 } : Room) #[(.int x), (.int y)] h0 (Q_max2 Z x y h0) := by
  refine Met1.of_body (Ls := #[.val (.int x), .val (.int y)]) pf_3 (fun m => by first | (simp [entryFrame, mkF, argsToLocals, Value.category]; done) | rfl) ?_
  intro p e s m below meth c T0 C X0 e0
  have N0 : Fr Z.heap.size [] := Fr.nil _
  refine Go.iloadN (pc' := 1) C X0 d3_0 rfl rfl ?_
  refine Go.iloadN (pc' := 2) C X0 d3_1 rfl rfl ?_
  refine Go.icmpYes (pc' := 9) C X0 d3_2 (tlt (x := x) (y := y) hxy).1 (by decide) (by decide) ?_
  refine Go.iloadN (pc' := 10) C X0 d3_9 rfl rfl ?_
  exact Go.retI C X0 rfl d3_10 (by rw [e0]; exact ⟨rfl, rfl, rfl⟩) (by decide) (by decide)
theorem pd_19 : parseMethodDescriptor "([BIJI)V" = some ⟨[(.array .byte), .int, .long, .int], none⟩ := by decide +kernel
theorem pd_20 : parseMethodDescriptor "([CIJI)V" = some ⟨[(.array .char), .int, .long, .int], none⟩ := by decide +kernel
theorem wS {a0 : Array Value} {Z : State} (hw : ∀ d ∈ tables_1, d.before a0 Z = true) : ∀ a ∈ Bundle.stringAtoms, a.before a0 Z = true := by
  intro a ha
  simp only [Bundle.stringAtoms, List.mem_cons, List.not_mem_nil, or_false] at ha
  rcases ha with rfl | rfl | rfl | rfl | rfl | rfl | rfl
  · exact (tw hw 33 rfl)
  · exact (tw hw 34 rfl)
  · exact (tw hw 1 rfl)
  · exact (tw hw 35 rfl)
  · exact (tw hw 36 rfl)
  · exact (tw hw 37 rfl)
  · exact (tw hw 38 rfl)
theorem pd_21 : parseMethodDescriptor "([B)Ljava/lang/String;" = some ⟨[(.array .byte)], some (.object "java/lang/String")⟩ := by decide +kernel
theorem pd_22 : parseMethodDescriptor "(Ljava/lang/Object;)Z" = some ⟨[(.object "java/lang/Object")], some .boolean⟩ := by decide +kernel
theorem pd_23 : parseMethodDescriptor "([C)V" = some ⟨[(.array .char)], none⟩ := by decide +kernel
theorem pd_24 : parseMethodDescriptor "(II)I" = some ⟨[.int, .int], some .int⟩ := by decide +kernel
theorem pd_25 : parseMethodDescriptor "(JI)J" = some ⟨[.long, .int], some .long⟩ := by decide +kernel
theorem pf_0 : plainFor x = true := plainFor_of_name (by first | (simp [plainName, overriddenIn, x]; done) | decide +kernel)
def Q_law (Z : State) (p1 : Int64) (p2 : Int64) (p3 : Int32) (cP : Int32) (ta : Addr) (tk : ClassId) (tb : List Value) (h0 : Heap) (rv : Option Value) (h : Heap) (L : List Loc) : Prop := rv = some (.int (1 : Int32)) ∧ Fr Z.heap.size L ∧ Keep h0 h []
theorem rm_law (l : Launch) (Z : State) (a0 : Array Value) (hw : ∀ d ∈ tables_1, d.before a0 Z = true) (p1 : Int64) (p2 : Int64) (p3 : Int32) (cP : Int32) (ta : Addr) (tk : ClassId) (tb : List Value) (h0 : Heap) (O0 : Ext Z.heap h0) (SC : Sta Z Z.heap "java/lang/String" "COMPACT_STRINGS" "Z" (.int cP)) (ST : Sta Z Z.heap "com/example/barrault/barrault/io/WarcDigest" "BASE32" "[C" (.ref ta)) (AT : AL Z Z.heap ta tk .char tb) (hP : ¬ cP = (0 : Int32)) (htb : ∀ c : Int32, 0 ≤ c.toInt → c.toInt < 32 → tb[c.toNatClampNeg]? = some (.int (alf c))) :
    Met1H consts_1 [] l Z x code maxLocals ret room_1 #[(.long p1), (.long p2), (.int p3)] h0 (Q_law Z p1 p2 p3 cP ta tk tb h0) := by
  refine Met1H.of_body (Ls := #[.val (.long p1), .second, .val (.long p2), .second, .val (.int p3), .unset, .unset, .unset, .unset, .unset, .unset, .unset, .unset, .unset, .unset, .unset, .unset]) pf_0 (fun m => by first | (simp [entryFrame, mkF, argsToLocals, Value.category, maxLocals]; done) | rfl) ?_
  intro p e s m below meth c T0 C X0 e0 hH0 hsf0
  have Hr0 := CHr.refl hH0
  have N0 : Fr Z.heap.size [] := Fr.nil _
  have Si0 : Sin s s h0 := Sin.start s h0
  refine Go.iload (pc' := 2) C X0 at_0 rfl rfl ?_
  refine Go.ldcI (pc' := 4) C X0 at_2 (tw hw 0 rfl) rfl ?_
  refine Go.iand (pc' := 5) C X0 at_4 rfl ?_
  refine Go.bipush (z := (11 : Int32)) (pc' := 7) C X0 at_5 rfl rfl ?_
  refine Go.irem (pc' := 8) C X0 at_7 (by decide) rfl ?_
  obtain ⟨nn, hnn, enn⟩ := own_m11 p3
  rw [enn]
  refine Go.istore (Ls' := #[.val (.long p1), .second, .val (.long p2), .second, .val (.int p3), .val (.int nn.toInt32), .unset, .unset, .unset, .unset, .unset, .unset, .unset, .unset, .unset, .unset, .unset]) (pc' := 10) C X0 at_8 rfl rfl ?_
  refine Go.iload (pc' := 12) C X0 at_10 rfl rfl ?_
  refine Go.newP (aty := .byte) (cap := 10) (vs := (by8 (List.replicate nn 0))) (ad := "[B") (pc' := 14) C X0 (by decide) (tw hw 1 rfl) e0 (n32_neg (by omega)) (by rw [n32_nat (by omega)]; exact hnn) (by decide) (by decide) (by decide) (by rw [n32_nat (by omega)]; exact by8_rep _) at_12 rfl ?_
  intro T101 h101 b101 k101 X101 e101 g101 E101 A101 Ea101
  have Hr102 := CHr.trans Hr0 (CHr.ext E101 Hr0.1)
  have n_b101 : Z.heap.size ≤ b101 := Nat.le_trans O0.1 (Nat.le_of_eq g101.symm)
  have z_b101 : h0.size ≤ b101 := Nat.le_trans (Nat.le_refl _) (Nat.le_of_eq g101.symm)
  have s_b101 : Safe Z consts_1 s.vm h101 b101 := Safe.ext E101 Hr0.1 (Safe.new (Nat.le_of_eq g101.symm))
  have A101 : AL Z h101 b101 k101 .byte (by8 (List.replicate nn 0)) := A101
  refine Go.astore (Ls' := #[.val (.long p1), .second, .val (.long p2), .second, .val (.int p3), .val (.int nn.toInt32), .val (.ref b101), .unset, .unset, .unset, .unset, .unset, .unset, .unset, .unset, .unset, .unset]) (pc' := 16) C X101 at_14 rfl rfl rfl ?_
  refine Go.aload (pc' := 18) C X101 at_16 rfl rfl rfl ?_
  refine Go.iconst (z := (0 : Int32)) (pc' := 19) C X101 at_18 rfl rfl ?_
  refine Go.lloadN (pc' := 20) C X101 at_19 rfl rfl ?_
  refine Go.iconst (z := (0 : Int32)) (pc' := 21) C X101 at_20 rfl rfl ?_
  have O104 : Ext Z.heap h101 := (Ext.trans O0 E101)
  refine Go.callS (y := mN5) (pc' := 24) C X101 (tw hw 2 rfl) (tw hw 3 rfl) (by decide) (rm_put l Z a0 hw b101 k101 ((List.replicate nn 0)) ((0 : Int32)) p1 ((0 : Int32)) 0 ((32 : Int32)) h101 O104 A101 (by rw [List.length_replicate]; omega) (by decide) (by decide) (by decide) n_b101) (tw hw 5 rfl) (tw hw 4 rfl) e101 (argsL := [(.ref b101), (.int (0 : Int32)), (.long p1), (.int (0 : Int32))]) (rest := []) (W := 0) rfl rfl pd_19 rfl (Nat.le_of_eq rfl) rfl (by decide) (by decide) (by decide) (by decide) at_21 rfl ?_
  intro T103 v103 L103 X103 q103
  obtain ⟨rfl, N103q, K103, P103_0⟩ := q103
  have N103 := Fr.app N0 N103q
  have Hr105 := CHr.trans Hr102 (CHr.keep K103 (allS s_b101 all0) Hr102.1)
  obtain ⟨Y0, hY0⟩ : ∃ z : List Int32, z = ((List.replicate nn 0).set 0 (bt p1 (32 : Int32))) := ⟨_, rfl⟩
  have aY0 : AL Z T103.heap b101 k101 .byte (by8 Y0) := by rw [hY0]; exact P103_0
  have lY0 : Y0.length = nn := by rw [hY0, List.length_set]; exact List.length_replicate
  refine Go.aload (pc' := 26) C X103 at_24 rfl rfl rfl ?_
  refine Go.iconst (z := (1 : Int32)) (pc' := 27) C X103 at_26 rfl rfl ?_
  refine Go.lloadN (pc' := 28) C X103 at_27 rfl rfl ?_
  refine Go.iconst (z := (1 : Int32)) (pc' := 29) C X103 at_28 rfl rfl ?_
  have O107 : Ext Z.heap T103.heap := (Ext.keep O104 K103 (allS n_b101 all0))
  refine Go.callS (y := mN5) (pc' := 32) C X103 (tw hw 2 rfl) (tw hw 3 rfl) (by decide) (rm_put l Z a0 hw b101 k101 Y0 ((1 : Int32)) p1 ((1 : Int32)) 1 ((24 : Int32)) T103.heap O107 aY0 (by rw [lY0]; omega) (by decide) (by decide) (by decide) n_b101) (tw hw 5 rfl) (tw hw 4 rfl) rfl (argsL := [(.ref b101), (.int (1 : Int32)), (.long p1), (.int (1 : Int32))]) (rest := []) (W := 0) rfl rfl pd_19 rfl (Nat.le_of_eq rfl) rfl (by decide) (by decide) (by decide) (by decide) at_29 rfl ?_
  intro T106 v106 L106 X106 q106
  obtain ⟨rfl, N106q, K106, P106_0⟩ := q106
  have N106 := Fr.app N103 N106q
  have sa109 : Safe Z consts_1 s.vm T103.heap b101 := (Safe.keep K103 (allS s_b101 all0) Hr102.1 s_b101)
  have Hr108 := CHr.trans Hr105 (CHr.keep K106 (allS sa109 all0) Hr105.1)
  obtain ⟨Y1, hY1⟩ : ∃ z : List Int32, z = (Y0.set 1 (bt p1 (24 : Int32))) := ⟨_, rfl⟩
  have aY1 : AL Z T106.heap b101 k101 .byte (by8 Y1) := by rw [hY1]; exact P106_0
  have lY1 : Y1.length = nn := by rw [hY1, List.length_set]; exact lY0
  refine Go.aload (pc' := 34) C X106 at_32 rfl rfl rfl ?_
  refine Go.iconst (z := (2 : Int32)) (pc' := 35) C X106 at_34 rfl rfl ?_
  refine Go.lloadN (pc' := 36) C X106 at_35 rfl rfl ?_
  refine Go.iconst (z := (2 : Int32)) (pc' := 37) C X106 at_36 rfl rfl ?_
  have O111 : Ext Z.heap T106.heap := (Ext.keep O107 K106 (allS n_b101 all0))
  refine Go.callS (y := mN5) (pc' := 40) C X106 (tw hw 2 rfl) (tw hw 3 rfl) (by decide) (rm_put l Z a0 hw b101 k101 Y1 ((2 : Int32)) p1 ((2 : Int32)) 2 ((16 : Int32)) T106.heap O111 aY1 (by rw [lY1]; omega) (by decide) (by decide) (by decide) n_b101) (tw hw 5 rfl) (tw hw 4 rfl) rfl (argsL := [(.ref b101), (.int (2 : Int32)), (.long p1), (.int (2 : Int32))]) (rest := []) (W := 0) rfl rfl pd_19 rfl (Nat.le_of_eq rfl) rfl (by decide) (by decide) (by decide) (by decide) at_37 rfl ?_
  intro T110 v110 L110 X110 q110
  obtain ⟨rfl, N110q, K110, P110_0⟩ := q110
  have N110 := Fr.app N106 N110q
  have sa113 : Safe Z consts_1 s.vm T106.heap b101 := (Safe.keep K106 (allS sa109 all0) Hr105.1 sa109)
  have Hr112 := CHr.trans Hr108 (CHr.keep K110 (allS sa113 all0) Hr108.1)
  obtain ⟨Y2, hY2⟩ : ∃ z : List Int32, z = (Y1.set 2 (bt p1 (16 : Int32))) := ⟨_, rfl⟩
  have aY2 : AL Z T110.heap b101 k101 .byte (by8 Y2) := by rw [hY2]; exact P110_0
  have lY2 : Y2.length = nn := by rw [hY2, List.length_set]; exact lY1
  refine Go.aload (pc' := 42) C X110 at_40 rfl rfl rfl ?_
  refine Go.iconst (z := (3 : Int32)) (pc' := 43) C X110 at_42 rfl rfl ?_
  refine Go.lloadN (pc' := 44) C X110 at_43 rfl rfl ?_
  refine Go.iconst (z := (3 : Int32)) (pc' := 45) C X110 at_44 rfl rfl ?_
  have O115 : Ext Z.heap T110.heap := (Ext.keep O111 K110 (allS n_b101 all0))
  refine Go.callS (y := mN5) (pc' := 48) C X110 (tw hw 2 rfl) (tw hw 3 rfl) (by decide) (rm_put l Z a0 hw b101 k101 Y2 ((3 : Int32)) p1 ((3 : Int32)) 3 ((8 : Int32)) T110.heap O115 aY2 (by rw [lY2]; omega) (by decide) (by decide) (by decide) n_b101) (tw hw 5 rfl) (tw hw 4 rfl) rfl (argsL := [(.ref b101), (.int (3 : Int32)), (.long p1), (.int (3 : Int32))]) (rest := []) (W := 0) rfl rfl pd_19 rfl (Nat.le_of_eq rfl) rfl (by decide) (by decide) (by decide) (by decide) at_45 rfl ?_
  intro T114 v114 L114 X114 q114
  obtain ⟨rfl, N114q, K114, P114_0⟩ := q114
  have N114 := Fr.app N110 N114q
  have sa117 : Safe Z consts_1 s.vm T110.heap b101 := (Safe.keep K110 (allS sa113 all0) Hr108.1 sa113)
  have Hr116 := CHr.trans Hr112 (CHr.keep K114 (allS sa117 all0) Hr112.1)
  obtain ⟨Y3, hY3⟩ : ∃ z : List Int32, z = (Y2.set 3 (bt p1 (8 : Int32))) := ⟨_, rfl⟩
  have aY3 : AL Z T114.heap b101 k101 .byte (by8 Y3) := by rw [hY3]; exact P114_0
  have lY3 : Y3.length = nn := by rw [hY3, List.length_set]; exact lY2
  refine Go.aload (pc' := 50) C X114 at_48 rfl rfl rfl ?_
  refine Go.iconst (z := (4 : Int32)) (pc' := 51) C X114 at_50 rfl rfl ?_
  refine Go.lloadN (pc' := 52) C X114 at_51 rfl rfl ?_
  refine Go.iconst (z := (4 : Int32)) (pc' := 53) C X114 at_52 rfl rfl ?_
  have O119 : Ext Z.heap T114.heap := (Ext.keep O115 K114 (allS n_b101 all0))
  refine Go.callS (y := mN5) (pc' := 56) C X114 (tw hw 2 rfl) (tw hw 3 rfl) (by decide) (rm_put l Z a0 hw b101 k101 Y3 ((4 : Int32)) p1 ((4 : Int32)) 4 ((0 : Int32)) T114.heap O119 aY3 (by rw [lY3]; omega) (by decide) (by decide) (by decide) n_b101) (tw hw 5 rfl) (tw hw 4 rfl) rfl (argsL := [(.ref b101), (.int (4 : Int32)), (.long p1), (.int (4 : Int32))]) (rest := []) (W := 0) rfl rfl pd_19 rfl (Nat.le_of_eq rfl) rfl (by decide) (by decide) (by decide) (by decide) at_53 rfl ?_
  intro T118 v118 L118 X118 q118
  obtain ⟨rfl, N118q, K118, P118_0⟩ := q118
  have N118 := Fr.app N114 N118q
  have sa121 : Safe Z consts_1 s.vm T114.heap b101 := (Safe.keep K114 (allS sa117 all0) Hr112.1 sa117)
  have Hr120 := CHr.trans Hr116 (CHr.keep K118 (allS sa121 all0) Hr116.1)
  obtain ⟨Y4, hY4⟩ : ∃ z : List Int32, z = (Y3.set 4 (bt p1 (0 : Int32))) := ⟨_, rfl⟩
  have aY4 : AL Z T118.heap b101 k101 .byte (by8 Y4) := by rw [hY4]; exact P118_0
  have lY4 : Y4.length = nn := by rw [hY4, List.length_set]; exact lY3
  refine Go.aload (pc' := 58) C X118 at_56 rfl rfl rfl ?_
  refine Go.iconst (z := (5 : Int32)) (pc' := 59) C X118 at_58 rfl rfl ?_
  refine Go.lloadN (pc' := 60) C X118 at_59 rfl rfl ?_
  refine Go.iconst (z := (0 : Int32)) (pc' := 61) C X118 at_60 rfl rfl ?_
  have O123 : Ext Z.heap T118.heap := (Ext.keep O119 K118 (allS n_b101 all0))
  refine Go.callS (y := mN5) (pc' := 64) C X118 (tw hw 2 rfl) (tw hw 3 rfl) (by decide) (rm_put l Z a0 hw b101 k101 Y4 ((5 : Int32)) p2 ((0 : Int32)) 5 ((32 : Int32)) T118.heap O123 aY4 (by rw [lY4]; omega) (by decide) (by decide) (by decide) n_b101) (tw hw 5 rfl) (tw hw 4 rfl) rfl (argsL := [(.ref b101), (.int (5 : Int32)), (.long p2), (.int (0 : Int32))]) (rest := []) (W := 0) rfl rfl pd_19 rfl (Nat.le_of_eq rfl) rfl (by decide) (by decide) (by decide) (by decide) at_61 rfl ?_
  intro T122 v122 L122 X122 q122
  obtain ⟨rfl, N122q, K122, P122_0⟩ := q122
  have N122 := Fr.app N118 N122q
  have sa125 : Safe Z consts_1 s.vm T118.heap b101 := (Safe.keep K118 (allS sa121 all0) Hr116.1 sa121)
  have Hr124 := CHr.trans Hr120 (CHr.keep K122 (allS sa125 all0) Hr120.1)
  obtain ⟨Y5, hY5⟩ : ∃ z : List Int32, z = (Y4.set 5 (bt p2 (32 : Int32))) := ⟨_, rfl⟩
  have aY5 : AL Z T122.heap b101 k101 .byte (by8 Y5) := by rw [hY5]; exact P122_0
  have lY5 : Y5.length = nn := by rw [hY5, List.length_set]; exact lY4
  refine Go.aload (pc' := 66) C X122 at_64 rfl rfl rfl ?_
  refine Go.bipush (z := (6 : Int32)) (pc' := 68) C X122 at_66 rfl rfl ?_
  refine Go.lloadN (pc' := 69) C X122 at_68 rfl rfl ?_
  refine Go.iconst (z := (1 : Int32)) (pc' := 70) C X122 at_69 rfl rfl ?_
  have O127 : Ext Z.heap T122.heap := (Ext.keep O123 K122 (allS n_b101 all0))
  refine Go.callS (y := mN5) (pc' := 73) C X122 (tw hw 2 rfl) (tw hw 3 rfl) (by decide) (rm_put l Z a0 hw b101 k101 Y5 ((6 : Int32)) p2 ((1 : Int32)) 6 ((24 : Int32)) T122.heap O127 aY5 (by rw [lY5]; omega) (by decide) (by decide) (by decide) n_b101) (tw hw 5 rfl) (tw hw 4 rfl) rfl (argsL := [(.ref b101), (.int (6 : Int32)), (.long p2), (.int (1 : Int32))]) (rest := []) (W := 0) rfl rfl pd_19 rfl (Nat.le_of_eq rfl) rfl (by decide) (by decide) (by decide) (by decide) at_70 rfl ?_
  intro T126 v126 L126 X126 q126
  obtain ⟨rfl, N126q, K126, P126_0⟩ := q126
  have N126 := Fr.app N122 N126q
  have sa129 : Safe Z consts_1 s.vm T122.heap b101 := (Safe.keep K122 (allS sa125 all0) Hr120.1 sa125)
  have Hr128 := CHr.trans Hr124 (CHr.keep K126 (allS sa129 all0) Hr124.1)
  obtain ⟨Y6, hY6⟩ : ∃ z : List Int32, z = (Y5.set 6 (bt p2 (24 : Int32))) := ⟨_, rfl⟩
  have aY6 : AL Z T126.heap b101 k101 .byte (by8 Y6) := by rw [hY6]; exact P126_0
  have lY6 : Y6.length = nn := by rw [hY6, List.length_set]; exact lY5
  refine Go.aload (pc' := 75) C X126 at_73 rfl rfl rfl ?_
  refine Go.bipush (z := (7 : Int32)) (pc' := 77) C X126 at_75 rfl rfl ?_
  refine Go.lloadN (pc' := 78) C X126 at_77 rfl rfl ?_
  refine Go.iconst (z := (2 : Int32)) (pc' := 79) C X126 at_78 rfl rfl ?_
  have O131 : Ext Z.heap T126.heap := (Ext.keep O127 K126 (allS n_b101 all0))
  refine Go.callS (y := mN5) (pc' := 82) C X126 (tw hw 2 rfl) (tw hw 3 rfl) (by decide) (rm_put l Z a0 hw b101 k101 Y6 ((7 : Int32)) p2 ((2 : Int32)) 7 ((16 : Int32)) T126.heap O131 aY6 (by rw [lY6]; omega) (by decide) (by decide) (by decide) n_b101) (tw hw 5 rfl) (tw hw 4 rfl) rfl (argsL := [(.ref b101), (.int (7 : Int32)), (.long p2), (.int (2 : Int32))]) (rest := []) (W := 0) rfl rfl pd_19 rfl (Nat.le_of_eq rfl) rfl (by decide) (by decide) (by decide) (by decide) at_79 rfl ?_
  intro T130 v130 L130 X130 q130
  obtain ⟨rfl, N130q, K130, P130_0⟩ := q130
  have N130 := Fr.app N126 N130q
  have sa133 : Safe Z consts_1 s.vm T126.heap b101 := (Safe.keep K126 (allS sa129 all0) Hr124.1 sa129)
  have Hr132 := CHr.trans Hr128 (CHr.keep K130 (allS sa133 all0) Hr128.1)
  obtain ⟨Y7, hY7⟩ : ∃ z : List Int32, z = (Y6.set 7 (bt p2 (16 : Int32))) := ⟨_, rfl⟩
  have aY7 : AL Z T130.heap b101 k101 .byte (by8 Y7) := by rw [hY7]; exact P130_0
  have lY7 : Y7.length = nn := by rw [hY7, List.length_set]; exact lY6
  refine Go.aload (pc' := 84) C X130 at_82 rfl rfl rfl ?_
  refine Go.bipush (z := (8 : Int32)) (pc' := 86) C X130 at_84 rfl rfl ?_
  refine Go.lloadN (pc' := 87) C X130 at_86 rfl rfl ?_
  refine Go.iconst (z := (3 : Int32)) (pc' := 88) C X130 at_87 rfl rfl ?_
  have O135 : Ext Z.heap T130.heap := (Ext.keep O131 K130 (allS n_b101 all0))
  refine Go.callS (y := mN5) (pc' := 91) C X130 (tw hw 2 rfl) (tw hw 3 rfl) (by decide) (rm_put l Z a0 hw b101 k101 Y7 ((8 : Int32)) p2 ((3 : Int32)) 8 ((8 : Int32)) T130.heap O135 aY7 (by rw [lY7]; omega) (by decide) (by decide) (by decide) n_b101) (tw hw 5 rfl) (tw hw 4 rfl) rfl (argsL := [(.ref b101), (.int (8 : Int32)), (.long p2), (.int (3 : Int32))]) (rest := []) (W := 0) rfl rfl pd_19 rfl (Nat.le_of_eq rfl) rfl (by decide) (by decide) (by decide) (by decide) at_88 rfl ?_
  intro T134 v134 L134 X134 q134
  obtain ⟨rfl, N134q, K134, P134_0⟩ := q134
  have N134 := Fr.app N130 N134q
  have sa137 : Safe Z consts_1 s.vm T130.heap b101 := (Safe.keep K130 (allS sa133 all0) Hr128.1 sa133)
  have Hr136 := CHr.trans Hr132 (CHr.keep K134 (allS sa137 all0) Hr132.1)
  obtain ⟨Y8, hY8⟩ : ∃ z : List Int32, z = (Y7.set 8 (bt p2 (8 : Int32))) := ⟨_, rfl⟩
  have aY8 : AL Z T134.heap b101 k101 .byte (by8 Y8) := by rw [hY8]; exact P134_0
  have lY8 : Y8.length = nn := by rw [hY8, List.length_set]; exact lY7
  refine Go.aload (pc' := 93) C X134 at_91 rfl rfl rfl ?_
  refine Go.bipush (z := (9 : Int32)) (pc' := 95) C X134 at_93 rfl rfl ?_
  refine Go.lloadN (pc' := 96) C X134 at_95 rfl rfl ?_
  refine Go.iconst (z := (4 : Int32)) (pc' := 97) C X134 at_96 rfl rfl ?_
  have O139 : Ext Z.heap T134.heap := (Ext.keep O135 K134 (allS n_b101 all0))
  refine Go.callS (y := mN5) (pc' := 100) C X134 (tw hw 2 rfl) (tw hw 3 rfl) (by decide) (rm_put l Z a0 hw b101 k101 Y8 ((9 : Int32)) p2 ((4 : Int32)) 9 ((0 : Int32)) T134.heap O139 aY8 (by rw [lY8]; omega) (by decide) (by decide) (by decide) n_b101) (tw hw 5 rfl) (tw hw 4 rfl) rfl (argsL := [(.ref b101), (.int (9 : Int32)), (.long p2), (.int (4 : Int32))]) (rest := []) (W := 0) rfl rfl pd_19 rfl (Nat.le_of_eq rfl) rfl (by decide) (by decide) (by decide) (by decide) at_97 rfl ?_
  intro T138 v138 L138 X138 q138
  obtain ⟨rfl, N138q, K138, P138_0⟩ := q138
  have N138 := Fr.app N134 N138q
  have sa141 : Safe Z consts_1 s.vm T134.heap b101 := (Safe.keep K134 (allS sa137 all0) Hr132.1 sa137)
  have Hr140 := CHr.trans Hr136 (CHr.keep K138 (allS sa141 all0) Hr136.1)
  obtain ⟨Y9, hY9⟩ : ∃ z : List Int32, z = (Y8.set 9 (bt p2 (0 : Int32))) := ⟨_, rfl⟩
  have aY9 : AL Z T138.heap b101 k101 .byte (by8 Y9) := by rw [hY9]; exact P138_0
  have lY9 : Y9.length = nn := by rw [hY9, List.length_set]; exact lY8
  have K142 : ∀ (T142 : State) (L142 : List Loc), Stand p l e room_1 s m #[(.long p1), (.long p2), (.int p3)] below meth c T142 L142 1 10 → T142.heap = T138.heap → Fr Z.heap.size L142 → ∀ (z5 : Int32) (k1 : Int32) (k2 : Int32) (K1 : Int64) (K2 : Int64), (KR nn z5 k1 k2 (p1 &&& (1099511627775 : Int64)) (p2 &&& (1099511627775 : Int64)) K1 K2) → Go p e below (FnH Z consts_1 s h0 room_1.cells room_1.slots (Q_law Z p1 p2 p3 cP ta tk tb h0)) T142 (mkF m 142 #[.val (.long p1), .second, .val (.long p2), .second, .val (.int p3), .val (.int z5), .val (.ref b101), .val (.int k1), .val (.int k2), .val (.long K1), .second, .val (.long K2), .second, .unset, .unset, .unset, .unset] []) := by
    intro T142 L142 X142 e142 N142 z5 k1 k2 K1 K2 hKR
    refine Go.bipush (z := (8 : Int32)) (pc' := 144) C X142 at_142 rfl rfl ?_
    have O144 : Ext Z.heap T138.heap := (Ext.keep O139 K138 (allS n_b101 all0))
    refine Go.newP (aty := .char) (cap := 8) (vs := [(.int (0 : Int32)), (.int (0 : Int32)), (.int (0 : Int32)), (.int (0 : Int32)), (.int (0 : Int32)), (.int (0 : Int32)), (.int (0 : Int32)), (.int (0 : Int32))]) (ad := "[C") (pc' := 146) C X142 (by decide) (tw hw 18 rfl) e142 (by decide) (by decide) (by decide) (by decide) (by decide) rfl at_144 rfl ?_
    intro T143 h143 b143 k143 X143 e143 g143 E143 A143 Ea143
    have Hr145 := CHr.trans Hr140 (CHr.ext E143 Hr140.1)
    have n_b143 : Z.heap.size ≤ b143 := Nat.le_trans O144.1 (Nat.le_of_eq g143.symm)
    have z_b143 : h0.size ≤ b143 := Nat.le_trans (Nat.le_trans (Nat.le_trans (Nat.le_trans (Nat.le_trans (Nat.le_trans (Nat.le_trans (Nat.le_trans (Nat.le_trans (Nat.le_trans (Nat.le_trans (Nat.le_trans (Nat.le_refl _) E101.1) K103.1) K106.1) K110.1) K114.1) K118.1) K122.1) K126.1) K130.1) K134.1) K138.1) (Nat.le_of_eq g143.symm)
    have s_b143 : Safe Z consts_1 s.vm h143 b143 := Safe.ext E143 Hr140.1 (Safe.new (Nat.le_of_eq g143.symm))
    have A143 : AL Z h143 b143 k143 .char [(.int (0 : Int32)), (.int (0 : Int32)), (.int (0 : Int32)), (.int (0 : Int32)), (.int (0 : Int32)), (.int (0 : Int32)), (.int (0 : Int32)), (.int (0 : Int32))] := A143
    refine Go.astore (Ls' := #[.val (.long p1), .second, .val (.long p2), .second, .val (.int p3), .val (.int z5), .val (.ref b101), .val (.int k1), .val (.int k2), .val (.long K1), .second, .val (.long K2), .second, .val (.ref b143), .unset, .unset, .unset]) (pc' := 148) C X143 at_146 rfl rfl rfl ?_
    refine Go.bipush (z := (16 : Int32)) (pc' := 150) C X143 at_148 rfl rfl ?_
    have O147 : Ext Z.heap h143 := (Ext.trans O144 E143)
    refine Go.newP (aty := .char) (cap := 16) (vs := [(.int (0 : Int32)), (.int (0 : Int32)), (.int (0 : Int32)), (.int (0 : Int32)), (.int (0 : Int32)), (.int (0 : Int32)), (.int (0 : Int32)), (.int (0 : Int32)), (.int (0 : Int32)), (.int (0 : Int32)), (.int (0 : Int32)), (.int (0 : Int32)), (.int (0 : Int32)), (.int (0 : Int32)), (.int (0 : Int32)), (.int (0 : Int32))]) (ad := "[C") (pc' := 152) C X143 (by decide) (tw hw 18 rfl) e143 (by decide) (by decide) (by decide) (by decide) (by decide) rfl at_150 rfl ?_
    intro T146 h146 b146 k146 X146 e146 g146 E146 A146 Ea146
    have Hr148 := CHr.trans Hr145 (CHr.ext E146 Hr145.1)
    have n_b146 : Z.heap.size ≤ b146 := Nat.le_trans O147.1 (Nat.le_of_eq g146.symm)
    have z_b146 : h0.size ≤ b146 := Nat.le_trans (Nat.le_trans (Nat.le_trans (Nat.le_trans (Nat.le_trans (Nat.le_trans (Nat.le_trans (Nat.le_trans (Nat.le_trans (Nat.le_trans (Nat.le_trans (Nat.le_trans (Nat.le_trans (Nat.le_refl _) E101.1) K103.1) K106.1) K110.1) K114.1) K118.1) K122.1) K126.1) K130.1) K134.1) K138.1) E143.1) (Nat.le_of_eq g146.symm)
    have s_b146 : Safe Z consts_1 s.vm h146 b146 := Safe.ext E146 Hr145.1 (Safe.new (Nat.le_of_eq g146.symm))
    have A146 : AL Z h146 b146 k146 .char [(.int (0 : Int32)), (.int (0 : Int32)), (.int (0 : Int32)), (.int (0 : Int32)), (.int (0 : Int32)), (.int (0 : Int32)), (.int (0 : Int32)), (.int (0 : Int32)), (.int (0 : Int32)), (.int (0 : Int32)), (.int (0 : Int32)), (.int (0 : Int32)), (.int (0 : Int32)), (.int (0 : Int32)), (.int (0 : Int32)), (.int (0 : Int32))] := A146
    refine Go.astore (Ls' := #[.val (.long p1), .second, .val (.long p2), .second, .val (.int p3), .val (.int z5), .val (.ref b101), .val (.int k1), .val (.int k2), .val (.long K1), .second, .val (.long K2), .second, .val (.ref b143), .val (.ref b146), .unset, .unset]) (pc' := 154) C X146 at_152 rfl rfl rfl ?_
    refine Go.aload (pc' := 156) C X146 at_154 rfl rfl rfl ?_
    refine Go.iconst (z := (0 : Int32)) (pc' := 157) C X146 at_156 rfl rfl ?_
    refine Go.lload (pc' := 159) C X146 at_157 rfl rfl ?_
    refine Go.iload (pc' := 161) C X146 at_159 rfl rfl ?_
    have c150 : AL Z h146 b143 k143 .char [(.int (0 : Int32)), (.int (0 : Int32)), (.int (0 : Int32)), (.int (0 : Int32)), (.int (0 : Int32)), (.int (0 : Int32)), (.int (0 : Int32)), (.int (0 : Int32))] := (AL.ext E146 A143)
    have O151 : Ext Z.heap h146 := (Ext.trans O147 E146)
    refine Go.callS (y := mN3) (pc' := 164) C X146 (tw hw 19 rfl) (tw hw 20 rfl) (by decide) (rm_f8 l Z a0 hw b143 k143 K1 k1 ((0 : Int32)) ((0 : Int32)) ((0 : Int32)) ((0 : Int32)) ((0 : Int32)) ((0 : Int32)) ((0 : Int32)) ((0 : Int32)) h146 O151 c150 n_b143) (tw hw 21 rfl) (tw hw 4 rfl) e146 (argsL := [(.ref b143), (.int (0 : Int32)), (.long K1), (.int k1)]) (rest := []) (W := 0) rfl rfl pd_20 rfl (Nat.le_of_eq rfl) rfl (by decide) (by decide) (by decide) (by decide) at_161 rfl ?_
    intro T149 v149 L149 X149 q149
    obtain ⟨rfl, N149q, K149, P149_0⟩ := q149
    have N149 := Fr.app N142 N149q
    have c153 : Exa Z h146 b143 "[C" := (Exa.ext E146 Ea143)
    have Hr152 := CHr.trans Hr148 (CHr.keep K149 (allS (Safe.exa C.2.1.alike c153 (by decide) (by decide)) all0) Hr148.1)
    refine Go.aload (pc' := 166) C X149 at_164 rfl rfl rfl ?_
    refine Go.iconst (z := (0 : Int32)) (pc' := 167) C X149 at_166 rfl rfl ?_
    refine Go.lload (pc' := 169) C X149 at_167 rfl rfl ?_
    refine Go.iload (pc' := 171) C X149 at_169 rfl rfl ?_
    have ne155 : b146 ≠ b143 := (Nat.ne_of_gt (Nat.lt_of_lt_of_le A143.lt (Nat.le_trans (Nat.le_refl _) (Nat.le_of_eq g146.symm))))
    have c156 : AL Z T149.heap b146 k146 .char [(.int (0 : Int32)), (.int (0 : Int32)), (.int (0 : Int32)), (.int (0 : Int32)), (.int (0 : Int32)), (.int (0 : Int32)), (.int (0 : Int32)), (.int (0 : Int32)), (.int (0 : Int32)), (.int (0 : Int32)), (.int (0 : Int32)), (.int (0 : Int32)), (.int (0 : Int32)), (.int (0 : Int32)), (.int (0 : Int32)), (.int (0 : Int32))] := (AL.keep A146 K149 (ninS ne155 nin0))
    have O157 : Ext Z.heap T149.heap := (Ext.keep O151 K149 (allS n_b143 all0))
    refine Go.callS (y := mN3) (pc' := 174) C X149 (tw hw 19 rfl) (tw hw 20 rfl) (by decide) (rm_f16a l Z a0 hw b146 k146 K1 k1 ((0 : Int32)) ((0 : Int32)) ((0 : Int32)) ((0 : Int32)) ((0 : Int32)) ((0 : Int32)) ((0 : Int32)) ((0 : Int32)) ((0 : Int32)) ((0 : Int32)) ((0 : Int32)) ((0 : Int32)) ((0 : Int32)) ((0 : Int32)) ((0 : Int32)) ((0 : Int32)) T149.heap O157 c156 n_b146) (tw hw 21 rfl) (tw hw 4 rfl) rfl (argsL := [(.ref b146), (.int (0 : Int32)), (.long K1), (.int k1)]) (rest := []) (W := 0) rfl rfl pd_20 rfl (Nat.le_of_eq rfl) rfl (by decide) (by decide) (by decide) (by decide) at_171 rfl ?_
    intro T154 v154 L154 X154 q154
    obtain ⟨rfl, N154q, K154, P154_0⟩ := q154
    have N154 := Fr.app N149 N154q
    have c159 : Exa Z T149.heap b146 "[C" := (Exa.keep Ea146 K149)
    have Hr158 := CHr.trans Hr152 (CHr.keep K154 (allS (Safe.exa C.2.1.alike c159 (by decide) (by decide)) all0) Hr152.1)
    refine Go.aload (pc' := 176) C X154 at_174 rfl rfl rfl ?_
    refine Go.bipush (z := (8 : Int32)) (pc' := 178) C X154 at_176 rfl rfl ?_
    refine Go.lload (pc' := 180) C X154 at_178 rfl rfl ?_
    refine Go.iload (pc' := 182) C X154 at_180 rfl rfl ?_
    have O161 : Ext Z.heap T154.heap := (Ext.keep O157 K154 (allS n_b146 all0))
    refine Go.callS (y := mN3) (pc' := 185) C X154 (tw hw 19 rfl) (tw hw 20 rfl) (by decide) (rm_f16b l Z a0 hw b146 k146 K2 k2 ((chI K1 (0 : Int32) k1)) ((chI K1 (1 : Int32) k1)) ((chI K1 (2 : Int32) k1)) ((chI K1 (3 : Int32) k1)) ((chI K1 (4 : Int32) k1)) ((chI K1 (5 : Int32) k1)) ((chI K1 (6 : Int32) k1)) ((chI K1 (7 : Int32) k1)) ((0 : Int32)) ((0 : Int32)) ((0 : Int32)) ((0 : Int32)) ((0 : Int32)) ((0 : Int32)) ((0 : Int32)) ((0 : Int32)) T154.heap O161 P154_0 n_b146) (tw hw 21 rfl) (tw hw 4 rfl) rfl (argsL := [(.ref b146), (.int (8 : Int32)), (.long K2), (.int k2)]) (rest := []) (W := 0) rfl rfl pd_20 rfl (Nat.le_of_eq rfl) rfl (by decide) (by decide) (by decide) (by decide) at_182 rfl ?_
    intro T160 v160 L160 X160 q160
    obtain ⟨rfl, N160q, K160, P160_0⟩ := q160
    have N160 := Fr.app N154 N160q
    have c163 : Exa Z T154.heap b146 "[C" := (Exa.keep c159 K154)
    have Hr162 := CHr.trans Hr158 (CHr.keep K160 (allS (Safe.exa C.2.1.alike c163 (by decide) (by decide)) all0) Hr158.1)
    rcases hKR with ⟨en, ez, ek1, ek2, hK1, hK2⟩ | ⟨en, ez, ek1, ek2, hK1, hK2⟩ | ⟨en, ez, ek1, ek2, hK1, hK2⟩ | ⟨en, ez, ek1, ek2, hK1, hK2⟩ | ⟨en, ez, ek1, ek2, hK1, hK2⟩ | ⟨en, ez, ek1, ek2, hK1, hK2⟩ | ⟨en, ez, ek1, ek2, hK1, hK2⟩ | ⟨en, ez, ek1, ek2, hK1, hK2⟩ | ⟨en, ez, ek1, ek2, hK1, hK2⟩ | ⟨en, ez, ek1, ek2, hK1, hK2⟩ | ⟨en, ez, ek1, ek2, hK1, hK2⟩
    · rw [ez]
      have ne164 : b101 ≠ b143 := Nat.ne_of_lt (Nat.lt_of_lt_of_le A101.lt (Nat.le_trans (Nat.le_trans (Nat.le_trans (Nat.le_trans (Nat.le_trans (Nat.le_trans (Nat.le_trans (Nat.le_trans (Nat.le_trans (Nat.le_trans (Nat.le_trans (Nat.le_refl _) K103.1) K106.1) K110.1) K114.1) K118.1) K122.1) K126.1) K130.1) K134.1) K138.1) (Nat.le_of_eq g143.symm)))
      have ne165 : b101 ≠ b146 := Nat.ne_of_lt (Nat.lt_of_lt_of_le A101.lt (Nat.le_trans (Nat.le_trans (Nat.le_trans (Nat.le_trans (Nat.le_trans (Nat.le_trans (Nat.le_trans (Nat.le_trans (Nat.le_trans (Nat.le_trans (Nat.le_trans (Nat.le_trans (Nat.le_refl _) K103.1) K106.1) K110.1) K114.1) K118.1) K122.1) K126.1) K130.1) K134.1) K138.1) E143.1) (Nat.le_of_eq g146.symm)))
      have c166 : AL Z T160.heap b101 k101 .byte (by8 Y9) := (AL.keep (AL.keep (AL.keep (AL.ext E146 (AL.ext E143 aY9)) K149 (ninS ne164 nin0)) K154 (ninS ne165 nin0)) K160 (ninS ne165 nin0))
      have aB : AL Z T160.heap b101 k101 .byte (by8 []) := by have q := c166; rw [hY9, hY8, hY7, hY6, hY5, hY4, hY3, hY2, hY1, hY0, en] at q; exact q
      refine Go.iload (pc' := 187) C X160 at_185 rfl rfl ?_
      refine Go.ifNo (pc' := 190) C X160 at_187 ((if0 _ _).trans (teq (x := (0 : Int32)) (y := (0 : Int32)) (by decide)).2) rfl ?_
      have O169 : Ext Z.heap T160.heap := (Ext.keep O161 K160 (allS n_b146 all0))
      have Si170 : Sin s s T160.heap := Sin.mono Si0 (Nat.le_trans (Nat.le_trans (Nat.le_trans (Nat.le_trans (Nat.le_trans (Nat.le_trans (Nat.le_trans (Nat.le_trans (Nat.le_trans (Nat.le_trans (Nat.le_trans (Nat.le_trans (Nat.le_trans (Nat.le_trans (Nat.le_trans (Nat.le_trans (Nat.le_refl _) E101.1) K103.1) K106.1) K110.1) K114.1) K118.1) K122.1) K126.1) K130.1) K134.1) K138.1) E143.1) E146.1) K149.1) K154.1) K160.1)
      have sa171 : Safe Z consts_1 s.vm T160.heap b101 := (Safe.keep K160 (allS (Safe.exa C.2.1.alike c163 (by decide) (by decide)) all0) Hr158.1 (Safe.keep K154 (allS (Safe.exa C.2.1.alike c159 (by decide) (by decide)) all0) Hr152.1 (Safe.keep K149 (allS (Safe.exa C.2.1.alike c153 (by decide) (by decide)) all0) Hr148.1 (Safe.ext E146 Hr145.1 (Safe.ext E143 Hr140.1 (Safe.keep K138 (allS sa141 all0) Hr136.1 sa141))))))
      have c172 : Exa Z T160.heap b143 "[C" := (Exa.keep (Exa.keep (Exa.keep c153 K149) K154) K160)
      have c173 : Exa Z T160.heap b146 "[C" := (Exa.keep c163 K160)
      refine Go.ldcH (pc' := 192) (n := 0) (vs := []) (z := (0 : Int32)) C X160 Si170 (EWc hw) Hr162.1 (tw hw 32 rfl) (wS hw) rfl (by decide) (by decide) (by decide) (by decide) (by decide) (by decide) (by decide) (by decide) at_190 rfl ?_
      intro T168 h168 b168 sC168 v168 k168 C168 X168 e168 Si168 E168 hR168 A168 F168c F168v B168 hne168
      have Hr174 := CHr.trans Hr162 hR168
      have sa175 : Safe Z consts_1 sC168.vm h168 b101 := (CHr.safe hR168 (Nat.lt_of_lt_of_le A101.lt (Nat.le_trans (Nat.le_trans (Nat.le_trans (Nat.le_trans (Nat.le_trans (Nat.le_trans (Nat.le_trans (Nat.le_trans (Nat.le_trans (Nat.le_trans (Nat.le_trans (Nat.le_trans (Nat.le_trans (Nat.le_trans (Nat.le_trans (Nat.le_refl _) K103.1) K106.1) K110.1) K114.1) K118.1) K122.1) K126.1) K130.1) K134.1) K138.1) E143.1) E146.1) K149.1) K154.1) K160.1)) sa171)
      have hx168_b101 := hne168 b101 sa175
      have c176 : Exa Z h168 b143 "[C" := (Exa.ext E168 c172)
      have hx168_b143 := hne168 b143 (Safe.exa C168.2.1.alike c176 (by decide) (by decide))
      have c177 : Exa Z h168 b146 "[C" := (Exa.ext E168 c173)
      have hx168_b146 := hne168 b146 (Safe.exa C168.2.1.alike c177 (by decide) (by decide))
      have tx178 : AL Z h168 v168 k168 .byte (by8 []) := B168
      refine Go.astore (Ls' := #[.val (.long p1), .second, .val (.long p2), .second, .val (.int p3), .val (.int (0 : Int32)), .val (.ref b101), .val (.int k1), .val (.int k2), .val (.long K1), .second, .val (.long K2), .second, .val (.ref b143), .val (.ref b146), .val (.ref b168), .unset]) (pc' := 194) C168 X168 at_192 rfl rfl rfl ?_
      refine Go.goto (pc' := 228) C168 X168 at_194 (by decide) (by decide) ?_
      refine Go.aload (pc' := 230) C168 X168 at_228 rfl rfl rfl ?_
      have c180 : AL Z h168 b101 k101 .byte (by8 []) := (AL.ext E168 aB)
      have O181 : Ext Z.heap h168 := (Ext.trans O169 E168)
      refine Go.callS (y := mN0) (pc' := 233) C168 X168 (tw hw 39 rfl) (tw hw 40 rfl) (by decide) (rm_b32_0 l Z a0 hw b101 k101 cP ta tk tb h168 O181 c180 SC ST AT hP htb) (tw hw 42 rfl) (tw hw 41 rfl) e168 (argsL := [(.ref b101)]) (rest := []) (W := 0) rfl rfl pd_21 rfl (Nat.le_of_eq rfl) rfl (by decide) (by decide) (by decide) (by decide) at_230 rfl ?_
      intro T179 v179 L179 X179 q179
      obtain ⟨s1_179, v_179, kv_179, rfl, N179q, K179, B179_0, B179_1, P179_0, P179_1, P179_2, P179_3⟩ := q179
      have N179 := Fr.app N160 N179q
      have Hr182 := CHr.trans Hr174 (CHr.keep K179 all0 Hr174.1)
      have n_s1_179 : Z.heap.size ≤ s1_179 := Nat.le_trans O181.1 B179_0
      have z_s1_179 : h0.size ≤ s1_179 := Nat.le_trans (Nat.le_trans (Nat.le_trans (Nat.le_trans (Nat.le_trans (Nat.le_trans (Nat.le_trans (Nat.le_trans (Nat.le_trans (Nat.le_trans (Nat.le_trans (Nat.le_trans (Nat.le_trans (Nat.le_trans (Nat.le_trans (Nat.le_trans (Nat.le_trans (Nat.le_trans (Nat.le_refl _) E101.1) K103.1) K106.1) K110.1) K114.1) K118.1) K122.1) K126.1) K130.1) K134.1) K138.1) E143.1) E146.1) K149.1) K154.1) K160.1) E168.1) B179_0
      have s_s1_179 : Safe Z consts_1 sC168.vm T179.heap s1_179 := Safe.keep K179 all0 Hr174.1 (Safe.new B179_0)
      have n_v_179 : Z.heap.size ≤ v_179 := Nat.le_trans O181.1 B179_1
      have z_v_179 : h0.size ≤ v_179 := Nat.le_trans (Nat.le_trans (Nat.le_trans (Nat.le_trans (Nat.le_trans (Nat.le_trans (Nat.le_trans (Nat.le_trans (Nat.le_trans (Nat.le_trans (Nat.le_trans (Nat.le_trans (Nat.le_trans (Nat.le_trans (Nat.le_trans (Nat.le_trans (Nat.le_trans (Nat.le_trans (Nat.le_refl _) E101.1) K103.1) K106.1) K110.1) K114.1) K118.1) K122.1) K126.1) K130.1) K134.1) K138.1) E143.1) E146.1) K149.1) K154.1) K160.1) E168.1) B179_1
      have s_v_179 : Safe Z consts_1 sC168.vm T179.heap v_179 := Safe.keep K179 all0 Hr174.1 (Safe.new B179_1)
      refine Go.astore (Ls' := #[.val (.long p1), .second, .val (.long p2), .second, .val (.int p3), .val (.int (0 : Int32)), .val (.ref b101), .val (.int k1), .val (.int k2), .val (.long K1), .second, .val (.long K2), .second, .val (.ref b143), .val (.ref b146), .val (.ref b168), .val (.ref s1_179)]) (pc' := 235) C168 X179 at_233 rfl rfl rfl ?_
      refine Go.aload (pc' := 237) C168 X179 at_235 rfl rfl rfl ?_
      refine Go.aload (pc' := 239) C168 X179 at_237 rfl rfl rfl ?_
      have c184 : Exa Z T179.heap b168 "java/lang/String" := (Exa.keep A168 K179)
      have c185 : Fld Z T179.heap b168 "java/lang/String" "value" "[B" (.ref v168) := (Fld.keep F168v K179 nin0)
      have c186 : Fld Z T179.heap b168 "java/lang/String" "coder" "B" (.int (0 : Int32)) := (Fld.keep F168c K179 nin0)
      have c187 : AL Z T179.heap v168 k168 .byte (by8 []) := (AL.keep tx178 K179 nin0)
      have ne188 : b168 ≠ s1_179 := Nat.ne_of_lt (Nat.lt_of_lt_of_le A168.lt (Nat.le_trans (Nat.le_refl _) B179_0))
      have O189 : Ext Z.heap T179.heap := (Ext.keep O181 K179 all0)
      refine Go.callV (y := mN19) (z := mN19) (a := b168) (pc' := 242) C168 X179 (tw hw 116 rfl) (tw hw 117 rfl) (notFace_at C168.2.1 (tw hw 119 rfl)) (tw hw 119 rfl) (tw hw 118 rfl) c184 (by decide) (rm_eqS l Z a0 hw b168 s1_179 v168 v_179 k168 kv_179 [] [] cP T179.heap O189 SC c184 c185 c186 c187 P179_0 P179_1 P179_2 P179_3 ne188 hP (show (0 : Nat) < 2 ^ 31 from by decide) (show (0 : Nat) < 2 ^ 31 from by decide)) (tw hw 120 rfl) (tw hw 33 rfl) rfl (argsL := [(.ref s1_179)]) (rest := []) (W := 0) rfl rfl pd_22 rfl (Nat.le_of_eq rfl) rfl (by decide) (by decide) (by decide) (by decide) at_239 rfl ?_
      intro T183 v183 L183 X183 q183
      obtain ⟨rfl, rfl, e183⟩ := q183
      have N183 := Fr.app N179 (Fr.nil _)
      have K190 : Keep h0 T179.heap [] := (((((((((((((((((((Keep.refl h0 []).ext E101).trans K103 (allS (Or.inr z_b101) all0)).trans K106 (allS (Or.inr z_b101) all0)).trans K110 (allS (Or.inr z_b101) all0)).trans K114 (allS (Or.inr z_b101) all0)).trans K118 (allS (Or.inr z_b101) all0)).trans K122 (allS (Or.inr z_b101) all0)).trans K126 (allS (Or.inr z_b101) all0)).trans K130 (allS (Or.inr z_b101) all0)).trans K134 (allS (Or.inr z_b101) all0)).trans K138 (allS (Or.inr z_b101) all0)).ext E143).ext E146).trans K149 (allS (Or.inr z_b143) all0)).trans K154 (allS (Or.inr z_b146) all0)).trans K160 (allS (Or.inr z_b146) all0)).ext E168).trans K179 all0)
      have Si191 : Sin s sC168 T179.heap := Sin.mono Si168 (Nat.le_trans (Nat.le_refl _) K179.1)
      exact Go.retNH C168 X183 (by rw [e183]; exact Si191) (EWc hw) (by rw [e183]; exact Hr182) rfl at_242 (by simp) (by rw [e183]; exact ⟨(by rw [if_pos rfl]; rfl), N183, K190⟩) (by decide) (by decide)
    · rw [ez]
      have ne192 : b101 ≠ b143 := Nat.ne_of_lt (Nat.lt_of_lt_of_le A101.lt (Nat.le_trans (Nat.le_trans (Nat.le_trans (Nat.le_trans (Nat.le_trans (Nat.le_trans (Nat.le_trans (Nat.le_trans (Nat.le_trans (Nat.le_trans (Nat.le_trans (Nat.le_refl _) K103.1) K106.1) K110.1) K114.1) K118.1) K122.1) K126.1) K130.1) K134.1) K138.1) (Nat.le_of_eq g143.symm)))
      have ne193 : b101 ≠ b146 := Nat.ne_of_lt (Nat.lt_of_lt_of_le A101.lt (Nat.le_trans (Nat.le_trans (Nat.le_trans (Nat.le_trans (Nat.le_trans (Nat.le_trans (Nat.le_trans (Nat.le_trans (Nat.le_trans (Nat.le_trans (Nat.le_trans (Nat.le_trans (Nat.le_refl _) K103.1) K106.1) K110.1) K114.1) K118.1) K122.1) K126.1) K130.1) K134.1) K138.1) E143.1) (Nat.le_of_eq g146.symm)))
      have c194 : AL Z T160.heap b101 k101 .byte (by8 Y9) := (AL.keep (AL.keep (AL.keep (AL.ext E146 (AL.ext E143 aY9)) K149 (ninS ne192 nin0)) K154 (ninS ne193 nin0)) K160 (ninS ne193 nin0))
      have aB : AL Z T160.heap b101 k101 .byte (by8 [(bt p1 (32 : Int32))]) := by have q := c194; rw [hY9, hY8, hY7, hY6, hY5, hY4, hY3, hY2, hY1, hY0, en] at q; exact q
      refine Go.iload (pc' := 187) C X160 at_185 rfl rfl ?_
      refine Go.ifYes (pc' := 197) C X160 at_187 ((if0 _ _).trans (feq (x := (1 : Int32)) (y := (0 : Int32)) (by decide)).2) (by decide) (by decide) ?_
      refine Go.iload (pc' := 199) C X160 at_197 rfl rfl ?_
      refine Go.iconst (z := (5 : Int32)) (pc' := 200) C X160 at_199 rfl rfl ?_
      refine Go.icmpNo (pc' := 203) C X160 at_200 (flt (x := (5 : Int32)) (y := (1 : Int32)) (by decide)).2.2.1 rfl ?_
      have O198 : Ext Z.heap T160.heap := (Ext.keep O161 K160 (allS n_b146 all0))
      refine Go.newO (pc' := 206) C X160 (tw hw 127 rfl) (tw hw 34 rfl) (tw hw 33 rfl) rfl (by decide) (by decide) at_203 rfl ?_
      intro T197 h197 b197 X197 e197 g197 E197 A197 D197
      have Hr199 := CHr.trans Hr162 (CHr.ext E197 Hr162.1)
      have n_b197 : Z.heap.size ≤ b197 := Nat.le_trans O198.1 (Nat.le_of_eq g197.symm)
      have z_b197 : h0.size ≤ b197 := Nat.le_trans (Nat.le_trans (Nat.le_trans (Nat.le_trans (Nat.le_trans (Nat.le_trans (Nat.le_trans (Nat.le_trans (Nat.le_trans (Nat.le_trans (Nat.le_trans (Nat.le_trans (Nat.le_trans (Nat.le_trans (Nat.le_trans (Nat.le_trans (Nat.le_trans (Nat.le_refl _) E101.1) K103.1) K106.1) K110.1) K114.1) K118.1) K122.1) K126.1) K130.1) K134.1) K138.1) E143.1) E146.1) K149.1) K154.1) K160.1) (Nat.le_of_eq g197.symm)
      have s_b197 : Safe Z consts_1 s.vm h197 b197 := Safe.ext E197 Hr162.1 (Safe.new (Nat.le_of_eq g197.symm))
      have F197_value : Fld Z h197 b197 "java/lang/String" "value" "[B" .null := D197 (Or.inr (tw hw 35 rfl)) (ty := (.array .byte)) (by decide)
      have F197_coder : Fld Z h197 b197 "java/lang/String" "coder" "B" (.int (0 : Int32)) := D197 (Or.inr (tw hw 36 rfl)) (ty := .byte) (by decide)
      refine Go.dup (pc' := 207) C X197 at_206 rfl rfl ?_
      refine Go.aload (pc' := 209) C X197 at_207 rfl rfl rfl ?_
      have c201 : AL Z h197 b143 k143 .char [(.int (chI K1 (0 : Int32) k1)), (.int (chI K1 (1 : Int32) k1)), (.int (chI K1 (2 : Int32) k1)), (.int (chI K1 (3 : Int32) k1)), (.int (chI K1 (4 : Int32) k1)), (.int (chI K1 (5 : Int32) k1)), (.int (chI K1 (6 : Int32) k1)), (.int (chI K1 (7 : Int32) k1))] := (AL.ext E197 (AL.keep (AL.keep P149_0 K154 (ninS (Ne.symm ne155) nin0)) K160 (ninS (Ne.symm ne155) nin0)))
      have O202 : Ext Z.heap h197 := (Ext.trans O198 E197)
      refine Go.callI (y := mN17) (a := b197) (pc' := 212) C X197 rfl (tw hw 128 rfl) (tw hw 129 rfl) (by decide) (rm_sI1 l Z a0 hw b197 b143 k143 ([(chI K1 (0 : Int32) k1), (chI K1 (1 : Int32) k1), (chI K1 (2 : Int32) k1), (chI K1 (3 : Int32) k1), (chI K1 (4 : Int32) k1), (chI K1 (5 : Int32) k1), (chI K1 (6 : Int32) k1), (chI K1 (7 : Int32) k1)]) cP h197 O202 A197 F197_value F197_coder (show AL Z h197 b143 k143 .char (ch16 [(chI K1 (0 : Int32) k1), (chI K1 (1 : Int32) k1), (chI K1 (2 : Int32) k1), (chI K1 (3 : Int32) k1), (chI K1 (4 : Int32) k1), (chI K1 (5 : Int32) k1), (chI K1 (6 : Int32) k1), (chI K1 (7 : Int32) k1)]) from c201) SC (by intro x hx; simp only [List.mem_cons, List.not_mem_nil, or_false] at hx; rcases hx with rfl | rfl | rfl | rfl | rfl | rfl | rfl | rfl <;> exact chI_r _ _ _) (show (8 : Nat) < 2 ^ 31 from by decide) (show (8 : Nat) ≤ 16 from by decide) (show ¬ (8 : Nat).toInt32 = (0 : Int32) from by decide) hP n_b197) (tw hw 130 rfl) (tw hw 33 rfl) e197 (argsL := [(.ref b143)]) (rest := [(.ref b197)]) (W := 1) rfl rfl pd_23 rfl (Nat.le_of_eq rfl) rfl (by decide) (by decide) (by decide) (by decide) rfl at_209 rfl ?_
      intro T200 v200 L200 X200 q200
      obtain ⟨v_200, kv_200, rfl, N200q, K200, B200_0, P200_0, P200_1, P200_2⟩ := q200
      have N200 := Fr.app N160 N200q
      have Hr203 := CHr.trans Hr199 (CHr.keep K200 (allS s_b197 all0) Hr199.1)
      have n_v_200 : Z.heap.size ≤ v_200 := Nat.le_trans O202.1 B200_0
      have z_v_200 : h0.size ≤ v_200 := Nat.le_trans (Nat.le_trans (Nat.le_trans (Nat.le_trans (Nat.le_trans (Nat.le_trans (Nat.le_trans (Nat.le_trans (Nat.le_trans (Nat.le_trans (Nat.le_trans (Nat.le_trans (Nat.le_trans (Nat.le_trans (Nat.le_trans (Nat.le_trans (Nat.le_trans (Nat.le_trans (Nat.le_refl _) E101.1) K103.1) K106.1) K110.1) K114.1) K118.1) K122.1) K126.1) K130.1) K134.1) K138.1) E143.1) E146.1) K149.1) K154.1) K160.1) E197.1) B200_0
      have s_v_200 : Safe Z consts_1 s.vm T200.heap v_200 := Safe.keep K200 (allS s_b197 all0) Hr199.1 (Safe.new B200_0)
      refine Go.astore (Ls' := #[.val (.long p1), .second, .val (.long p2), .second, .val (.int p3), .val (.int (1 : Int32)), .val (.ref b101), .val (.int k1), .val (.int k2), .val (.long K1), .second, .val (.long K2), .second, .val (.ref b143), .val (.ref b146), .val (.ref b197), .unset]) (pc' := 214) C X200 at_212 rfl rfl rfl ?_
      refine Go.goto (pc' := 228) C X200 at_214 (by decide) (by decide) ?_
      refine Go.aload (pc' := 230) C X200 at_228 rfl rfl rfl ?_
      have ne205 : b101 ≠ b197 := Nat.ne_of_lt (Nat.lt_of_lt_of_le A101.lt (Nat.le_trans (Nat.le_trans (Nat.le_trans (Nat.le_trans (Nat.le_trans (Nat.le_trans (Nat.le_trans (Nat.le_trans (Nat.le_trans (Nat.le_trans (Nat.le_trans (Nat.le_trans (Nat.le_trans (Nat.le_trans (Nat.le_trans (Nat.le_trans (Nat.le_refl _) K103.1) K106.1) K110.1) K114.1) K118.1) K122.1) K126.1) K130.1) K134.1) K138.1) E143.1) E146.1) K149.1) K154.1) K160.1) (Nat.le_of_eq g197.symm)))
      have c206 : AL Z T200.heap b101 k101 .byte (by8 [(bt p1 (32 : Int32))]) := (AL.keep (AL.ext E197 aB) K200 (ninS ne205 nin0))
      have O207 : Ext Z.heap T200.heap := (Ext.keep O202 K200 (allS n_b197 all0))
      refine Go.callS (y := mN0) (pc' := 233) C X200 (tw hw 39 rfl) (tw hw 40 rfl) (by decide) (rm_b32_1 l Z a0 hw b101 k101 cP ta tk tb ((bt p1 (32 : Int32))) T200.heap O207 c206 SC ST AT hP htb) (tw hw 42 rfl) (tw hw 41 rfl) rfl (argsL := [(.ref b101)]) (rest := []) (W := 0) rfl rfl pd_21 rfl (Nat.le_of_eq rfl) rfl (by decide) (by decide) (by decide) (by decide) at_230 rfl ?_
      intro T204 v204 L204 X204 q204
      obtain ⟨s1_204, v_204, kv_204, c0_204, c1_204, rfl, N204q, K204, B204_0, B204_1, P204_0, P204_1, P204_2, P204_3, p204_0, p204_1⟩ := q204
      have N204 := Fr.app N200 N204q
      have Hr208 := CHr.trans Hr203 (CHr.keep K204 all0 Hr203.1)
      have n_s1_204 : Z.heap.size ≤ s1_204 := Nat.le_trans O207.1 B204_0
      have z_s1_204 : h0.size ≤ s1_204 := Nat.le_trans (Nat.le_trans (Nat.le_trans (Nat.le_trans (Nat.le_trans (Nat.le_trans (Nat.le_trans (Nat.le_trans (Nat.le_trans (Nat.le_trans (Nat.le_trans (Nat.le_trans (Nat.le_trans (Nat.le_trans (Nat.le_trans (Nat.le_trans (Nat.le_trans (Nat.le_trans (Nat.le_trans (Nat.le_refl _) E101.1) K103.1) K106.1) K110.1) K114.1) K118.1) K122.1) K126.1) K130.1) K134.1) K138.1) E143.1) E146.1) K149.1) K154.1) K160.1) E197.1) K200.1) B204_0
      have s_s1_204 : Safe Z consts_1 s.vm T204.heap s1_204 := Safe.keep K204 all0 Hr203.1 (Safe.new B204_0)
      have n_v_204 : Z.heap.size ≤ v_204 := Nat.le_trans O207.1 B204_1
      have z_v_204 : h0.size ≤ v_204 := Nat.le_trans (Nat.le_trans (Nat.le_trans (Nat.le_trans (Nat.le_trans (Nat.le_trans (Nat.le_trans (Nat.le_trans (Nat.le_trans (Nat.le_trans (Nat.le_trans (Nat.le_trans (Nat.le_trans (Nat.le_trans (Nat.le_trans (Nat.le_trans (Nat.le_trans (Nat.le_trans (Nat.le_trans (Nat.le_refl _) E101.1) K103.1) K106.1) K110.1) K114.1) K118.1) K122.1) K126.1) K130.1) K134.1) K138.1) E143.1) E146.1) K149.1) K154.1) K160.1) E197.1) K200.1) B204_1
      have s_v_204 : Safe Z consts_1 s.vm T204.heap v_204 := Safe.keep K204 all0 Hr203.1 (Safe.new B204_1)
      refine Go.astore (Ls' := #[.val (.long p1), .second, .val (.long p2), .second, .val (.int p3), .val (.int (1 : Int32)), .val (.ref b101), .val (.int k1), .val (.int k2), .val (.long K1), .second, .val (.long K2), .second, .val (.ref b143), .val (.ref b146), .val (.ref b197), .val (.ref s1_204)]) (pc' := 235) C X204 at_233 rfl rfl rfl ?_
      obtain ⟨i0_0, i0_1, i0_2, i0_3, i0_4, i0_5, i0_6, i0_7⟩ := grp1 _ hK1 p204_0 p204_1
      refine Go.aload (pc' := 237) C X204 at_235 rfl rfl rfl ?_
      refine Go.aload (pc' := 239) C X204 at_237 rfl rfl rfl ?_
      have c210 : Exa Z T204.heap b197 "java/lang/String" := (Exa.keep (Exa.keep A197 K200) K204)
      have c211 : Fld Z T204.heap b197 "java/lang/String" "value" "[B" (.ref v_200) := (Fld.keep P200_0 K204 nin0)
      have c212 : Fld Z T204.heap b197 "java/lang/String" "coder" "B" (.int (0 : Int32)) := (Fld.keep P200_1 K204 nin0)
      have c213 : AL Z T204.heap v_200 kv_200 .byte (by8 [(chI K1 (0 : Int32) k1), (chI K1 (1 : Int32) k1), (chI K1 (2 : Int32) k1), (chI K1 (3 : Int32) k1), (chI K1 (4 : Int32) k1), (chI K1 (5 : Int32) k1), (chI K1 (6 : Int32) k1), (chI K1 (7 : Int32) k1)]) := (AL.keep P200_2 K204 nin0)
      have ne214 : b197 ≠ s1_204 := Nat.ne_of_lt (Nat.lt_of_lt_of_le A197.lt (Nat.le_trans (Nat.le_trans (Nat.le_refl _) K200.1) B204_0))
      have O215 : Ext Z.heap T204.heap := (Ext.keep O207 K204 all0)
      refine Go.callV (y := mN19) (z := mN19) (a := b197) (pc' := 242) C X204 (tw hw 116 rfl) (tw hw 117 rfl) (notFace_at C.2.1 (tw hw 119 rfl)) (tw hw 119 rfl) (tw hw 118 rfl) c210 (by decide) (rm_eqS l Z a0 hw b197 s1_204 v_200 v_204 kv_200 kv_204 ([(chI K1 (0 : Int32) k1), (chI K1 (1 : Int32) k1), (chI K1 (2 : Int32) k1), (chI K1 (3 : Int32) k1), (chI K1 (4 : Int32) k1), (chI K1 (5 : Int32) k1), (chI K1 (6 : Int32) k1), (chI K1 (7 : Int32) k1)]) ([(alf c0_204), (alf c1_204), 61, 61, 61, 61, 61, 61]) cP T204.heap O215 SC c210 c211 c212 c213 P204_0 P204_1 P204_2 P204_3 ne214 hP (show (8 : Nat) < 2 ^ 31 from by decide) (show (8 : Nat) < 2 ^ 31 from by decide)) (tw hw 120 rfl) (tw hw 33 rfl) rfl (argsL := [(.ref s1_204)]) (rest := []) (W := 0) rfl rfl pd_22 rfl (Nat.le_of_eq rfl) rfl (by decide) (by decide) (by decide) (by decide) at_239 rfl ?_
      intro T209 v209 L209 X209 q209
      obtain ⟨rfl, rfl, e209⟩ := q209
      have N209 := Fr.app N204 (Fr.nil _)
      have K216 : Keep h0 T204.heap [] := ((((((((((((((((((((Keep.refl h0 []).ext E101).trans K103 (allS (Or.inr z_b101) all0)).trans K106 (allS (Or.inr z_b101) all0)).trans K110 (allS (Or.inr z_b101) all0)).trans K114 (allS (Or.inr z_b101) all0)).trans K118 (allS (Or.inr z_b101) all0)).trans K122 (allS (Or.inr z_b101) all0)).trans K126 (allS (Or.inr z_b101) all0)).trans K130 (allS (Or.inr z_b101) all0)).trans K134 (allS (Or.inr z_b101) all0)).trans K138 (allS (Or.inr z_b101) all0)).ext E143).ext E146).trans K149 (allS (Or.inr z_b143) all0)).trans K154 (allS (Or.inr z_b146) all0)).trans K160 (allS (Or.inr z_b146) all0)).ext E197).trans K200 (allS (Or.inr z_b197) all0)).trans K204 all0)
      have Si217 : Sin s s T204.heap := Sin.mono Si0 (Nat.le_trans (Nat.le_trans (Nat.le_trans (Nat.le_trans (Nat.le_trans (Nat.le_trans (Nat.le_trans (Nat.le_trans (Nat.le_trans (Nat.le_trans (Nat.le_trans (Nat.le_trans (Nat.le_trans (Nat.le_trans (Nat.le_trans (Nat.le_trans (Nat.le_trans (Nat.le_trans (Nat.le_trans (Nat.le_refl _) E101.1) K103.1) K106.1) K110.1) K114.1) K118.1) K122.1) K126.1) K130.1) K134.1) K138.1) E143.1) E146.1) K149.1) K154.1) K160.1) E197.1) K200.1) K204.1)
      exact Go.retNH C X209 (by rw [e209]; exact Si217) (EWc hw) (by rw [e209]; exact Hr208) rfl at_242 (by simp) (by rw [e209]; exact ⟨(by rw [ek1, i0_0, i0_1, i0_2, i0_3, i0_4, i0_5, i0_6, i0_7, if_pos rfl]; rfl), N209, K216⟩) (by decide) (by decide)
    · rw [ez]
      have ne218 : b101 ≠ b143 := Nat.ne_of_lt (Nat.lt_of_lt_of_le A101.lt (Nat.le_trans (Nat.le_trans (Nat.le_trans (Nat.le_trans (Nat.le_trans (Nat.le_trans (Nat.le_trans (Nat.le_trans (Nat.le_trans (Nat.le_trans (Nat.le_trans (Nat.le_refl _) K103.1) K106.1) K110.1) K114.1) K118.1) K122.1) K126.1) K130.1) K134.1) K138.1) (Nat.le_of_eq g143.symm)))
      have ne219 : b101 ≠ b146 := Nat.ne_of_lt (Nat.lt_of_lt_of_le A101.lt (Nat.le_trans (Nat.le_trans (Nat.le_trans (Nat.le_trans (Nat.le_trans (Nat.le_trans (Nat.le_trans (Nat.le_trans (Nat.le_trans (Nat.le_trans (Nat.le_trans (Nat.le_trans (Nat.le_refl _) K103.1) K106.1) K110.1) K114.1) K118.1) K122.1) K126.1) K130.1) K134.1) K138.1) E143.1) (Nat.le_of_eq g146.symm)))
      have c220 : AL Z T160.heap b101 k101 .byte (by8 Y9) := (AL.keep (AL.keep (AL.keep (AL.ext E146 (AL.ext E143 aY9)) K149 (ninS ne218 nin0)) K154 (ninS ne219 nin0)) K160 (ninS ne219 nin0))
      have aB : AL Z T160.heap b101 k101 .byte (by8 [(bt p1 (32 : Int32)), (bt p1 (24 : Int32))]) := by have q := c220; rw [hY9, hY8, hY7, hY6, hY5, hY4, hY3, hY2, hY1, hY0, en] at q; exact q
      refine Go.iload (pc' := 187) C X160 at_185 rfl rfl ?_
      refine Go.ifYes (pc' := 197) C X160 at_187 ((if0 _ _).trans (feq (x := (2 : Int32)) (y := (0 : Int32)) (by decide)).2) (by decide) (by decide) ?_
      refine Go.iload (pc' := 199) C X160 at_197 rfl rfl ?_
      refine Go.iconst (z := (5 : Int32)) (pc' := 200) C X160 at_199 rfl rfl ?_
      refine Go.icmpNo (pc' := 203) C X160 at_200 (flt (x := (5 : Int32)) (y := (2 : Int32)) (by decide)).2.2.1 rfl ?_
      have O224 : Ext Z.heap T160.heap := (Ext.keep O161 K160 (allS n_b146 all0))
      refine Go.newO (pc' := 206) C X160 (tw hw 127 rfl) (tw hw 34 rfl) (tw hw 33 rfl) rfl (by decide) (by decide) at_203 rfl ?_
      intro T223 h223 b223 X223 e223 g223 E223 A223 D223
      have Hr225 := CHr.trans Hr162 (CHr.ext E223 Hr162.1)
      have n_b223 : Z.heap.size ≤ b223 := Nat.le_trans O224.1 (Nat.le_of_eq g223.symm)
      have z_b223 : h0.size ≤ b223 := Nat.le_trans (Nat.le_trans (Nat.le_trans (Nat.le_trans (Nat.le_trans (Nat.le_trans (Nat.le_trans (Nat.le_trans (Nat.le_trans (Nat.le_trans (Nat.le_trans (Nat.le_trans (Nat.le_trans (Nat.le_trans (Nat.le_trans (Nat.le_trans (Nat.le_trans (Nat.le_refl _) E101.1) K103.1) K106.1) K110.1) K114.1) K118.1) K122.1) K126.1) K130.1) K134.1) K138.1) E143.1) E146.1) K149.1) K154.1) K160.1) (Nat.le_of_eq g223.symm)
      have s_b223 : Safe Z consts_1 s.vm h223 b223 := Safe.ext E223 Hr162.1 (Safe.new (Nat.le_of_eq g223.symm))
      have F223_value : Fld Z h223 b223 "java/lang/String" "value" "[B" .null := D223 (Or.inr (tw hw 35 rfl)) (ty := (.array .byte)) (by decide)
      have F223_coder : Fld Z h223 b223 "java/lang/String" "coder" "B" (.int (0 : Int32)) := D223 (Or.inr (tw hw 36 rfl)) (ty := .byte) (by decide)
      refine Go.dup (pc' := 207) C X223 at_206 rfl rfl ?_
      refine Go.aload (pc' := 209) C X223 at_207 rfl rfl rfl ?_
      have c227 : AL Z h223 b143 k143 .char [(.int (chI K1 (0 : Int32) k1)), (.int (chI K1 (1 : Int32) k1)), (.int (chI K1 (2 : Int32) k1)), (.int (chI K1 (3 : Int32) k1)), (.int (chI K1 (4 : Int32) k1)), (.int (chI K1 (5 : Int32) k1)), (.int (chI K1 (6 : Int32) k1)), (.int (chI K1 (7 : Int32) k1))] := (AL.ext E223 (AL.keep (AL.keep P149_0 K154 (ninS (Ne.symm ne155) nin0)) K160 (ninS (Ne.symm ne155) nin0)))
      have O228 : Ext Z.heap h223 := (Ext.trans O224 E223)
      refine Go.callI (y := mN17) (a := b223) (pc' := 212) C X223 rfl (tw hw 128 rfl) (tw hw 129 rfl) (by decide) (rm_sI1 l Z a0 hw b223 b143 k143 ([(chI K1 (0 : Int32) k1), (chI K1 (1 : Int32) k1), (chI K1 (2 : Int32) k1), (chI K1 (3 : Int32) k1), (chI K1 (4 : Int32) k1), (chI K1 (5 : Int32) k1), (chI K1 (6 : Int32) k1), (chI K1 (7 : Int32) k1)]) cP h223 O228 A223 F223_value F223_coder (show AL Z h223 b143 k143 .char (ch16 [(chI K1 (0 : Int32) k1), (chI K1 (1 : Int32) k1), (chI K1 (2 : Int32) k1), (chI K1 (3 : Int32) k1), (chI K1 (4 : Int32) k1), (chI K1 (5 : Int32) k1), (chI K1 (6 : Int32) k1), (chI K1 (7 : Int32) k1)]) from c227) SC (by intro x hx; simp only [List.mem_cons, List.not_mem_nil, or_false] at hx; rcases hx with rfl | rfl | rfl | rfl | rfl | rfl | rfl | rfl <;> exact chI_r _ _ _) (show (8 : Nat) < 2 ^ 31 from by decide) (show (8 : Nat) ≤ 16 from by decide) (show ¬ (8 : Nat).toInt32 = (0 : Int32) from by decide) hP n_b223) (tw hw 130 rfl) (tw hw 33 rfl) e223 (argsL := [(.ref b143)]) (rest := [(.ref b223)]) (W := 1) rfl rfl pd_23 rfl (Nat.le_of_eq rfl) rfl (by decide) (by decide) (by decide) (by decide) rfl at_209 rfl ?_
      intro T226 v226 L226 X226 q226
      obtain ⟨v_226, kv_226, rfl, N226q, K226, B226_0, P226_0, P226_1, P226_2⟩ := q226
      have N226 := Fr.app N160 N226q
      have Hr229 := CHr.trans Hr225 (CHr.keep K226 (allS s_b223 all0) Hr225.1)
      have n_v_226 : Z.heap.size ≤ v_226 := Nat.le_trans O228.1 B226_0
      have z_v_226 : h0.size ≤ v_226 := Nat.le_trans (Nat.le_trans (Nat.le_trans (Nat.le_trans (Nat.le_trans (Nat.le_trans (Nat.le_trans (Nat.le_trans (Nat.le_trans (Nat.le_trans (Nat.le_trans (Nat.le_trans (Nat.le_trans (Nat.le_trans (Nat.le_trans (Nat.le_trans (Nat.le_trans (Nat.le_trans (Nat.le_refl _) E101.1) K103.1) K106.1) K110.1) K114.1) K118.1) K122.1) K126.1) K130.1) K134.1) K138.1) E143.1) E146.1) K149.1) K154.1) K160.1) E223.1) B226_0
      have s_v_226 : Safe Z consts_1 s.vm T226.heap v_226 := Safe.keep K226 (allS s_b223 all0) Hr225.1 (Safe.new B226_0)
      refine Go.astore (Ls' := #[.val (.long p1), .second, .val (.long p2), .second, .val (.int p3), .val (.int (2 : Int32)), .val (.ref b101), .val (.int k1), .val (.int k2), .val (.long K1), .second, .val (.long K2), .second, .val (.ref b143), .val (.ref b146), .val (.ref b223), .unset]) (pc' := 214) C X226 at_212 rfl rfl rfl ?_
      refine Go.goto (pc' := 228) C X226 at_214 (by decide) (by decide) ?_
      refine Go.aload (pc' := 230) C X226 at_228 rfl rfl rfl ?_
      have ne231 : b101 ≠ b223 := Nat.ne_of_lt (Nat.lt_of_lt_of_le A101.lt (Nat.le_trans (Nat.le_trans (Nat.le_trans (Nat.le_trans (Nat.le_trans (Nat.le_trans (Nat.le_trans (Nat.le_trans (Nat.le_trans (Nat.le_trans (Nat.le_trans (Nat.le_trans (Nat.le_trans (Nat.le_trans (Nat.le_trans (Nat.le_trans (Nat.le_refl _) K103.1) K106.1) K110.1) K114.1) K118.1) K122.1) K126.1) K130.1) K134.1) K138.1) E143.1) E146.1) K149.1) K154.1) K160.1) (Nat.le_of_eq g223.symm)))
      have c232 : AL Z T226.heap b101 k101 .byte (by8 [(bt p1 (32 : Int32)), (bt p1 (24 : Int32))]) := (AL.keep (AL.ext E223 aB) K226 (ninS ne231 nin0))
      have O233 : Ext Z.heap T226.heap := (Ext.keep O228 K226 (allS n_b223 all0))
      refine Go.callS (y := mN0) (pc' := 233) C X226 (tw hw 39 rfl) (tw hw 40 rfl) (by decide) (rm_b32_2 l Z a0 hw b101 k101 cP ta tk tb ((bt p1 (32 : Int32))) ((bt p1 (24 : Int32))) T226.heap O233 c232 SC ST AT hP htb) (tw hw 42 rfl) (tw hw 41 rfl) rfl (argsL := [(.ref b101)]) (rest := []) (W := 0) rfl rfl pd_21 rfl (Nat.le_of_eq rfl) rfl (by decide) (by decide) (by decide) (by decide) at_230 rfl ?_
      intro T230 v230 L230 X230 q230
      obtain ⟨s1_230, v_230, kv_230, c0_230, c1_230, c2_230, c3_230, rfl, N230q, K230, B230_0, B230_1, P230_0, P230_1, P230_2, P230_3, p230_0, p230_1, p230_2, p230_3⟩ := q230
      have N230 := Fr.app N226 N230q
      have Hr234 := CHr.trans Hr229 (CHr.keep K230 all0 Hr229.1)
      have n_s1_230 : Z.heap.size ≤ s1_230 := Nat.le_trans O233.1 B230_0
      have z_s1_230 : h0.size ≤ s1_230 := Nat.le_trans (Nat.le_trans (Nat.le_trans (Nat.le_trans (Nat.le_trans (Nat.le_trans (Nat.le_trans (Nat.le_trans (Nat.le_trans (Nat.le_trans (Nat.le_trans (Nat.le_trans (Nat.le_trans (Nat.le_trans (Nat.le_trans (Nat.le_trans (Nat.le_trans (Nat.le_trans (Nat.le_trans (Nat.le_refl _) E101.1) K103.1) K106.1) K110.1) K114.1) K118.1) K122.1) K126.1) K130.1) K134.1) K138.1) E143.1) E146.1) K149.1) K154.1) K160.1) E223.1) K226.1) B230_0
      have s_s1_230 : Safe Z consts_1 s.vm T230.heap s1_230 := Safe.keep K230 all0 Hr229.1 (Safe.new B230_0)
      have n_v_230 : Z.heap.size ≤ v_230 := Nat.le_trans O233.1 B230_1
      have z_v_230 : h0.size ≤ v_230 := Nat.le_trans (Nat.le_trans (Nat.le_trans (Nat.le_trans (Nat.le_trans (Nat.le_trans (Nat.le_trans (Nat.le_trans (Nat.le_trans (Nat.le_trans (Nat.le_trans (Nat.le_trans (Nat.le_trans (Nat.le_trans (Nat.le_trans (Nat.le_trans (Nat.le_trans (Nat.le_trans (Nat.le_trans (Nat.le_refl _) E101.1) K103.1) K106.1) K110.1) K114.1) K118.1) K122.1) K126.1) K130.1) K134.1) K138.1) E143.1) E146.1) K149.1) K154.1) K160.1) E223.1) K226.1) B230_1
      have s_v_230 : Safe Z consts_1 s.vm T230.heap v_230 := Safe.keep K230 all0 Hr229.1 (Safe.new B230_1)
      refine Go.astore (Ls' := #[.val (.long p1), .second, .val (.long p2), .second, .val (.int p3), .val (.int (2 : Int32)), .val (.ref b101), .val (.int k1), .val (.int k2), .val (.long K1), .second, .val (.long K2), .second, .val (.ref b143), .val (.ref b146), .val (.ref b223), .val (.ref s1_230)]) (pc' := 235) C X230 at_233 rfl rfl rfl ?_
      obtain ⟨i0_0, i0_1, i0_2, i0_3, i0_4, i0_5, i0_6, i0_7⟩ := grp2 _ hK1 p230_0 p230_1 p230_2 p230_3
      refine Go.aload (pc' := 237) C X230 at_235 rfl rfl rfl ?_
      refine Go.aload (pc' := 239) C X230 at_237 rfl rfl rfl ?_
      have c236 : Exa Z T230.heap b223 "java/lang/String" := (Exa.keep (Exa.keep A223 K226) K230)
      have c237 : Fld Z T230.heap b223 "java/lang/String" "value" "[B" (.ref v_226) := (Fld.keep P226_0 K230 nin0)
      have c238 : Fld Z T230.heap b223 "java/lang/String" "coder" "B" (.int (0 : Int32)) := (Fld.keep P226_1 K230 nin0)
      have c239 : AL Z T230.heap v_226 kv_226 .byte (by8 [(chI K1 (0 : Int32) k1), (chI K1 (1 : Int32) k1), (chI K1 (2 : Int32) k1), (chI K1 (3 : Int32) k1), (chI K1 (4 : Int32) k1), (chI K1 (5 : Int32) k1), (chI K1 (6 : Int32) k1), (chI K1 (7 : Int32) k1)]) := (AL.keep P226_2 K230 nin0)
      have ne240 : b223 ≠ s1_230 := Nat.ne_of_lt (Nat.lt_of_lt_of_le A223.lt (Nat.le_trans (Nat.le_trans (Nat.le_refl _) K226.1) B230_0))
      have O241 : Ext Z.heap T230.heap := (Ext.keep O233 K230 all0)
      refine Go.callV (y := mN19) (z := mN19) (a := b223) (pc' := 242) C X230 (tw hw 116 rfl) (tw hw 117 rfl) (notFace_at C.2.1 (tw hw 119 rfl)) (tw hw 119 rfl) (tw hw 118 rfl) c236 (by decide) (rm_eqS l Z a0 hw b223 s1_230 v_226 v_230 kv_226 kv_230 ([(chI K1 (0 : Int32) k1), (chI K1 (1 : Int32) k1), (chI K1 (2 : Int32) k1), (chI K1 (3 : Int32) k1), (chI K1 (4 : Int32) k1), (chI K1 (5 : Int32) k1), (chI K1 (6 : Int32) k1), (chI K1 (7 : Int32) k1)]) ([(alf c0_230), (alf c1_230), (alf c2_230), (alf c3_230), 61, 61, 61, 61]) cP T230.heap O241 SC c236 c237 c238 c239 P230_0 P230_1 P230_2 P230_3 ne240 hP (show (8 : Nat) < 2 ^ 31 from by decide) (show (8 : Nat) < 2 ^ 31 from by decide)) (tw hw 120 rfl) (tw hw 33 rfl) rfl (argsL := [(.ref s1_230)]) (rest := []) (W := 0) rfl rfl pd_22 rfl (Nat.le_of_eq rfl) rfl (by decide) (by decide) (by decide) (by decide) at_239 rfl ?_
      intro T235 v235 L235 X235 q235
      obtain ⟨rfl, rfl, e235⟩ := q235
      have N235 := Fr.app N230 (Fr.nil _)
      have K242 : Keep h0 T230.heap [] := ((((((((((((((((((((Keep.refl h0 []).ext E101).trans K103 (allS (Or.inr z_b101) all0)).trans K106 (allS (Or.inr z_b101) all0)).trans K110 (allS (Or.inr z_b101) all0)).trans K114 (allS (Or.inr z_b101) all0)).trans K118 (allS (Or.inr z_b101) all0)).trans K122 (allS (Or.inr z_b101) all0)).trans K126 (allS (Or.inr z_b101) all0)).trans K130 (allS (Or.inr z_b101) all0)).trans K134 (allS (Or.inr z_b101) all0)).trans K138 (allS (Or.inr z_b101) all0)).ext E143).ext E146).trans K149 (allS (Or.inr z_b143) all0)).trans K154 (allS (Or.inr z_b146) all0)).trans K160 (allS (Or.inr z_b146) all0)).ext E223).trans K226 (allS (Or.inr z_b223) all0)).trans K230 all0)
      have Si243 : Sin s s T230.heap := Sin.mono Si0 (Nat.le_trans (Nat.le_trans (Nat.le_trans (Nat.le_trans (Nat.le_trans (Nat.le_trans (Nat.le_trans (Nat.le_trans (Nat.le_trans (Nat.le_trans (Nat.le_trans (Nat.le_trans (Nat.le_trans (Nat.le_trans (Nat.le_trans (Nat.le_trans (Nat.le_trans (Nat.le_trans (Nat.le_trans (Nat.le_refl _) E101.1) K103.1) K106.1) K110.1) K114.1) K118.1) K122.1) K126.1) K130.1) K134.1) K138.1) E143.1) E146.1) K149.1) K154.1) K160.1) E223.1) K226.1) K230.1)
      exact Go.retNH C X235 (by rw [e235]; exact Si243) (EWc hw) (by rw [e235]; exact Hr234) rfl at_242 (by simp) (by rw [e235]; exact ⟨(by rw [ek1, i0_0, i0_1, i0_2, i0_3, i0_4, i0_5, i0_6, i0_7, if_pos rfl]; rfl), N235, K242⟩) (by decide) (by decide)
    · rw [ez]
      have ne244 : b101 ≠ b143 := Nat.ne_of_lt (Nat.lt_of_lt_of_le A101.lt (Nat.le_trans (Nat.le_trans (Nat.le_trans (Nat.le_trans (Nat.le_trans (Nat.le_trans (Nat.le_trans (Nat.le_trans (Nat.le_trans (Nat.le_trans (Nat.le_trans (Nat.le_refl _) K103.1) K106.1) K110.1) K114.1) K118.1) K122.1) K126.1) K130.1) K134.1) K138.1) (Nat.le_of_eq g143.symm)))
      have ne245 : b101 ≠ b146 := Nat.ne_of_lt (Nat.lt_of_lt_of_le A101.lt (Nat.le_trans (Nat.le_trans (Nat.le_trans (Nat.le_trans (Nat.le_trans (Nat.le_trans (Nat.le_trans (Nat.le_trans (Nat.le_trans (Nat.le_trans (Nat.le_trans (Nat.le_trans (Nat.le_refl _) K103.1) K106.1) K110.1) K114.1) K118.1) K122.1) K126.1) K130.1) K134.1) K138.1) E143.1) (Nat.le_of_eq g146.symm)))
      have c246 : AL Z T160.heap b101 k101 .byte (by8 Y9) := (AL.keep (AL.keep (AL.keep (AL.ext E146 (AL.ext E143 aY9)) K149 (ninS ne244 nin0)) K154 (ninS ne245 nin0)) K160 (ninS ne245 nin0))
      have aB : AL Z T160.heap b101 k101 .byte (by8 [(bt p1 (32 : Int32)), (bt p1 (24 : Int32)), (bt p1 (16 : Int32))]) := by have q := c246; rw [hY9, hY8, hY7, hY6, hY5, hY4, hY3, hY2, hY1, hY0, en] at q; exact q
      refine Go.iload (pc' := 187) C X160 at_185 rfl rfl ?_
      refine Go.ifYes (pc' := 197) C X160 at_187 ((if0 _ _).trans (feq (x := (3 : Int32)) (y := (0 : Int32)) (by decide)).2) (by decide) (by decide) ?_
      refine Go.iload (pc' := 199) C X160 at_197 rfl rfl ?_
      refine Go.iconst (z := (5 : Int32)) (pc' := 200) C X160 at_199 rfl rfl ?_
      refine Go.icmpNo (pc' := 203) C X160 at_200 (flt (x := (5 : Int32)) (y := (3 : Int32)) (by decide)).2.2.1 rfl ?_
      have O250 : Ext Z.heap T160.heap := (Ext.keep O161 K160 (allS n_b146 all0))
      refine Go.newO (pc' := 206) C X160 (tw hw 127 rfl) (tw hw 34 rfl) (tw hw 33 rfl) rfl (by decide) (by decide) at_203 rfl ?_
      intro T249 h249 b249 X249 e249 g249 E249 A249 D249
      have Hr251 := CHr.trans Hr162 (CHr.ext E249 Hr162.1)
      have n_b249 : Z.heap.size ≤ b249 := Nat.le_trans O250.1 (Nat.le_of_eq g249.symm)
      have z_b249 : h0.size ≤ b249 := Nat.le_trans (Nat.le_trans (Nat.le_trans (Nat.le_trans (Nat.le_trans (Nat.le_trans (Nat.le_trans (Nat.le_trans (Nat.le_trans (Nat.le_trans (Nat.le_trans (Nat.le_trans (Nat.le_trans (Nat.le_trans (Nat.le_trans (Nat.le_trans (Nat.le_trans (Nat.le_refl _) E101.1) K103.1) K106.1) K110.1) K114.1) K118.1) K122.1) K126.1) K130.1) K134.1) K138.1) E143.1) E146.1) K149.1) K154.1) K160.1) (Nat.le_of_eq g249.symm)
      have s_b249 : Safe Z consts_1 s.vm h249 b249 := Safe.ext E249 Hr162.1 (Safe.new (Nat.le_of_eq g249.symm))
      have F249_value : Fld Z h249 b249 "java/lang/String" "value" "[B" .null := D249 (Or.inr (tw hw 35 rfl)) (ty := (.array .byte)) (by decide)
      have F249_coder : Fld Z h249 b249 "java/lang/String" "coder" "B" (.int (0 : Int32)) := D249 (Or.inr (tw hw 36 rfl)) (ty := .byte) (by decide)
      refine Go.dup (pc' := 207) C X249 at_206 rfl rfl ?_
      refine Go.aload (pc' := 209) C X249 at_207 rfl rfl rfl ?_
      have c253 : AL Z h249 b143 k143 .char [(.int (chI K1 (0 : Int32) k1)), (.int (chI K1 (1 : Int32) k1)), (.int (chI K1 (2 : Int32) k1)), (.int (chI K1 (3 : Int32) k1)), (.int (chI K1 (4 : Int32) k1)), (.int (chI K1 (5 : Int32) k1)), (.int (chI K1 (6 : Int32) k1)), (.int (chI K1 (7 : Int32) k1))] := (AL.ext E249 (AL.keep (AL.keep P149_0 K154 (ninS (Ne.symm ne155) nin0)) K160 (ninS (Ne.symm ne155) nin0)))
      have O254 : Ext Z.heap h249 := (Ext.trans O250 E249)
      refine Go.callI (y := mN17) (a := b249) (pc' := 212) C X249 rfl (tw hw 128 rfl) (tw hw 129 rfl) (by decide) (rm_sI1 l Z a0 hw b249 b143 k143 ([(chI K1 (0 : Int32) k1), (chI K1 (1 : Int32) k1), (chI K1 (2 : Int32) k1), (chI K1 (3 : Int32) k1), (chI K1 (4 : Int32) k1), (chI K1 (5 : Int32) k1), (chI K1 (6 : Int32) k1), (chI K1 (7 : Int32) k1)]) cP h249 O254 A249 F249_value F249_coder (show AL Z h249 b143 k143 .char (ch16 [(chI K1 (0 : Int32) k1), (chI K1 (1 : Int32) k1), (chI K1 (2 : Int32) k1), (chI K1 (3 : Int32) k1), (chI K1 (4 : Int32) k1), (chI K1 (5 : Int32) k1), (chI K1 (6 : Int32) k1), (chI K1 (7 : Int32) k1)]) from c253) SC (by intro x hx; simp only [List.mem_cons, List.not_mem_nil, or_false] at hx; rcases hx with rfl | rfl | rfl | rfl | rfl | rfl | rfl | rfl <;> exact chI_r _ _ _) (show (8 : Nat) < 2 ^ 31 from by decide) (show (8 : Nat) ≤ 16 from by decide) (show ¬ (8 : Nat).toInt32 = (0 : Int32) from by decide) hP n_b249) (tw hw 130 rfl) (tw hw 33 rfl) e249 (argsL := [(.ref b143)]) (rest := [(.ref b249)]) (W := 1) rfl rfl pd_23 rfl (Nat.le_of_eq rfl) rfl (by decide) (by decide) (by decide) (by decide) rfl at_209 rfl ?_
      intro T252 v252 L252 X252 q252
      obtain ⟨v_252, kv_252, rfl, N252q, K252, B252_0, P252_0, P252_1, P252_2⟩ := q252
      have N252 := Fr.app N160 N252q
      have Hr255 := CHr.trans Hr251 (CHr.keep K252 (allS s_b249 all0) Hr251.1)
      have n_v_252 : Z.heap.size ≤ v_252 := Nat.le_trans O254.1 B252_0
      have z_v_252 : h0.size ≤ v_252 := Nat.le_trans (Nat.le_trans (Nat.le_trans (Nat.le_trans (Nat.le_trans (Nat.le_trans (Nat.le_trans (Nat.le_trans (Nat.le_trans (Nat.le_trans (Nat.le_trans (Nat.le_trans (Nat.le_trans (Nat.le_trans (Nat.le_trans (Nat.le_trans (Nat.le_trans (Nat.le_trans (Nat.le_refl _) E101.1) K103.1) K106.1) K110.1) K114.1) K118.1) K122.1) K126.1) K130.1) K134.1) K138.1) E143.1) E146.1) K149.1) K154.1) K160.1) E249.1) B252_0
      have s_v_252 : Safe Z consts_1 s.vm T252.heap v_252 := Safe.keep K252 (allS s_b249 all0) Hr251.1 (Safe.new B252_0)
      refine Go.astore (Ls' := #[.val (.long p1), .second, .val (.long p2), .second, .val (.int p3), .val (.int (3 : Int32)), .val (.ref b101), .val (.int k1), .val (.int k2), .val (.long K1), .second, .val (.long K2), .second, .val (.ref b143), .val (.ref b146), .val (.ref b249), .unset]) (pc' := 214) C X252 at_212 rfl rfl rfl ?_
      refine Go.goto (pc' := 228) C X252 at_214 (by decide) (by decide) ?_
      refine Go.aload (pc' := 230) C X252 at_228 rfl rfl rfl ?_
      have ne257 : b101 ≠ b249 := Nat.ne_of_lt (Nat.lt_of_lt_of_le A101.lt (Nat.le_trans (Nat.le_trans (Nat.le_trans (Nat.le_trans (Nat.le_trans (Nat.le_trans (Nat.le_trans (Nat.le_trans (Nat.le_trans (Nat.le_trans (Nat.le_trans (Nat.le_trans (Nat.le_trans (Nat.le_trans (Nat.le_trans (Nat.le_trans (Nat.le_refl _) K103.1) K106.1) K110.1) K114.1) K118.1) K122.1) K126.1) K130.1) K134.1) K138.1) E143.1) E146.1) K149.1) K154.1) K160.1) (Nat.le_of_eq g249.symm)))
      have c258 : AL Z T252.heap b101 k101 .byte (by8 [(bt p1 (32 : Int32)), (bt p1 (24 : Int32)), (bt p1 (16 : Int32))]) := (AL.keep (AL.ext E249 aB) K252 (ninS ne257 nin0))
      have O259 : Ext Z.heap T252.heap := (Ext.keep O254 K252 (allS n_b249 all0))
      refine Go.callS (y := mN0) (pc' := 233) C X252 (tw hw 39 rfl) (tw hw 40 rfl) (by decide) (rm_b32_3 l Z a0 hw b101 k101 cP ta tk tb ((bt p1 (32 : Int32))) ((bt p1 (24 : Int32))) ((bt p1 (16 : Int32))) T252.heap O259 c258 SC ST AT hP htb) (tw hw 42 rfl) (tw hw 41 rfl) rfl (argsL := [(.ref b101)]) (rest := []) (W := 0) rfl rfl pd_21 rfl (Nat.le_of_eq rfl) rfl (by decide) (by decide) (by decide) (by decide) at_230 rfl ?_
      intro T256 v256 L256 X256 q256
      obtain ⟨s1_256, v_256, kv_256, c0_256, c1_256, c2_256, c3_256, c4_256, rfl, N256q, K256, B256_0, B256_1, P256_0, P256_1, P256_2, P256_3, p256_0, p256_1, p256_2, p256_3, p256_4⟩ := q256
      have N256 := Fr.app N252 N256q
      have Hr260 := CHr.trans Hr255 (CHr.keep K256 all0 Hr255.1)
      have n_s1_256 : Z.heap.size ≤ s1_256 := Nat.le_trans O259.1 B256_0
      have z_s1_256 : h0.size ≤ s1_256 := Nat.le_trans (Nat.le_trans (Nat.le_trans (Nat.le_trans (Nat.le_trans (Nat.le_trans (Nat.le_trans (Nat.le_trans (Nat.le_trans (Nat.le_trans (Nat.le_trans (Nat.le_trans (Nat.le_trans (Nat.le_trans (Nat.le_trans (Nat.le_trans (Nat.le_trans (Nat.le_trans (Nat.le_trans (Nat.le_refl _) E101.1) K103.1) K106.1) K110.1) K114.1) K118.1) K122.1) K126.1) K130.1) K134.1) K138.1) E143.1) E146.1) K149.1) K154.1) K160.1) E249.1) K252.1) B256_0
      have s_s1_256 : Safe Z consts_1 s.vm T256.heap s1_256 := Safe.keep K256 all0 Hr255.1 (Safe.new B256_0)
      have n_v_256 : Z.heap.size ≤ v_256 := Nat.le_trans O259.1 B256_1
      have z_v_256 : h0.size ≤ v_256 := Nat.le_trans (Nat.le_trans (Nat.le_trans (Nat.le_trans (Nat.le_trans (Nat.le_trans (Nat.le_trans (Nat.le_trans (Nat.le_trans (Nat.le_trans (Nat.le_trans (Nat.le_trans (Nat.le_trans (Nat.le_trans (Nat.le_trans (Nat.le_trans (Nat.le_trans (Nat.le_trans (Nat.le_trans (Nat.le_refl _) E101.1) K103.1) K106.1) K110.1) K114.1) K118.1) K122.1) K126.1) K130.1) K134.1) K138.1) E143.1) E146.1) K149.1) K154.1) K160.1) E249.1) K252.1) B256_1
      have s_v_256 : Safe Z consts_1 s.vm T256.heap v_256 := Safe.keep K256 all0 Hr255.1 (Safe.new B256_1)
      refine Go.astore (Ls' := #[.val (.long p1), .second, .val (.long p2), .second, .val (.int p3), .val (.int (3 : Int32)), .val (.ref b101), .val (.int k1), .val (.int k2), .val (.long K1), .second, .val (.long K2), .second, .val (.ref b143), .val (.ref b146), .val (.ref b249), .val (.ref s1_256)]) (pc' := 235) C X256 at_233 rfl rfl rfl ?_
      obtain ⟨i0_0, i0_1, i0_2, i0_3, i0_4, i0_5, i0_6, i0_7⟩ := grp3 _ hK1 p256_0 p256_1 p256_2 p256_3 p256_4
      refine Go.aload (pc' := 237) C X256 at_235 rfl rfl rfl ?_
      refine Go.aload (pc' := 239) C X256 at_237 rfl rfl rfl ?_
      have c262 : Exa Z T256.heap b249 "java/lang/String" := (Exa.keep (Exa.keep A249 K252) K256)
      have c263 : Fld Z T256.heap b249 "java/lang/String" "value" "[B" (.ref v_252) := (Fld.keep P252_0 K256 nin0)
      have c264 : Fld Z T256.heap b249 "java/lang/String" "coder" "B" (.int (0 : Int32)) := (Fld.keep P252_1 K256 nin0)
      have c265 : AL Z T256.heap v_252 kv_252 .byte (by8 [(chI K1 (0 : Int32) k1), (chI K1 (1 : Int32) k1), (chI K1 (2 : Int32) k1), (chI K1 (3 : Int32) k1), (chI K1 (4 : Int32) k1), (chI K1 (5 : Int32) k1), (chI K1 (6 : Int32) k1), (chI K1 (7 : Int32) k1)]) := (AL.keep P252_2 K256 nin0)
      have ne266 : b249 ≠ s1_256 := Nat.ne_of_lt (Nat.lt_of_lt_of_le A249.lt (Nat.le_trans (Nat.le_trans (Nat.le_refl _) K252.1) B256_0))
      have O267 : Ext Z.heap T256.heap := (Ext.keep O259 K256 all0)
      refine Go.callV (y := mN19) (z := mN19) (a := b249) (pc' := 242) C X256 (tw hw 116 rfl) (tw hw 117 rfl) (notFace_at C.2.1 (tw hw 119 rfl)) (tw hw 119 rfl) (tw hw 118 rfl) c262 (by decide) (rm_eqS l Z a0 hw b249 s1_256 v_252 v_256 kv_252 kv_256 ([(chI K1 (0 : Int32) k1), (chI K1 (1 : Int32) k1), (chI K1 (2 : Int32) k1), (chI K1 (3 : Int32) k1), (chI K1 (4 : Int32) k1), (chI K1 (5 : Int32) k1), (chI K1 (6 : Int32) k1), (chI K1 (7 : Int32) k1)]) ([(alf c0_256), (alf c1_256), (alf c2_256), (alf c3_256), (alf c4_256), 61, 61, 61]) cP T256.heap O267 SC c262 c263 c264 c265 P256_0 P256_1 P256_2 P256_3 ne266 hP (show (8 : Nat) < 2 ^ 31 from by decide) (show (8 : Nat) < 2 ^ 31 from by decide)) (tw hw 120 rfl) (tw hw 33 rfl) rfl (argsL := [(.ref s1_256)]) (rest := []) (W := 0) rfl rfl pd_22 rfl (Nat.le_of_eq rfl) rfl (by decide) (by decide) (by decide) (by decide) at_239 rfl ?_
      intro T261 v261 L261 X261 q261
      obtain ⟨rfl, rfl, e261⟩ := q261
      have N261 := Fr.app N256 (Fr.nil _)
      have K268 : Keep h0 T256.heap [] := ((((((((((((((((((((Keep.refl h0 []).ext E101).trans K103 (allS (Or.inr z_b101) all0)).trans K106 (allS (Or.inr z_b101) all0)).trans K110 (allS (Or.inr z_b101) all0)).trans K114 (allS (Or.inr z_b101) all0)).trans K118 (allS (Or.inr z_b101) all0)).trans K122 (allS (Or.inr z_b101) all0)).trans K126 (allS (Or.inr z_b101) all0)).trans K130 (allS (Or.inr z_b101) all0)).trans K134 (allS (Or.inr z_b101) all0)).trans K138 (allS (Or.inr z_b101) all0)).ext E143).ext E146).trans K149 (allS (Or.inr z_b143) all0)).trans K154 (allS (Or.inr z_b146) all0)).trans K160 (allS (Or.inr z_b146) all0)).ext E249).trans K252 (allS (Or.inr z_b249) all0)).trans K256 all0)
      have Si269 : Sin s s T256.heap := Sin.mono Si0 (Nat.le_trans (Nat.le_trans (Nat.le_trans (Nat.le_trans (Nat.le_trans (Nat.le_trans (Nat.le_trans (Nat.le_trans (Nat.le_trans (Nat.le_trans (Nat.le_trans (Nat.le_trans (Nat.le_trans (Nat.le_trans (Nat.le_trans (Nat.le_trans (Nat.le_trans (Nat.le_trans (Nat.le_trans (Nat.le_refl _) E101.1) K103.1) K106.1) K110.1) K114.1) K118.1) K122.1) K126.1) K130.1) K134.1) K138.1) E143.1) E146.1) K149.1) K154.1) K160.1) E249.1) K252.1) K256.1)
      exact Go.retNH C X261 (by rw [e261]; exact Si269) (EWc hw) (by rw [e261]; exact Hr260) rfl at_242 (by simp) (by rw [e261]; exact ⟨(by rw [ek1, i0_0, i0_1, i0_2, i0_3, i0_4, i0_5, i0_6, i0_7, if_pos rfl]; rfl), N261, K268⟩) (by decide) (by decide)
    · rw [ez]
      have ne270 : b101 ≠ b143 := Nat.ne_of_lt (Nat.lt_of_lt_of_le A101.lt (Nat.le_trans (Nat.le_trans (Nat.le_trans (Nat.le_trans (Nat.le_trans (Nat.le_trans (Nat.le_trans (Nat.le_trans (Nat.le_trans (Nat.le_trans (Nat.le_trans (Nat.le_refl _) K103.1) K106.1) K110.1) K114.1) K118.1) K122.1) K126.1) K130.1) K134.1) K138.1) (Nat.le_of_eq g143.symm)))
      have ne271 : b101 ≠ b146 := Nat.ne_of_lt (Nat.lt_of_lt_of_le A101.lt (Nat.le_trans (Nat.le_trans (Nat.le_trans (Nat.le_trans (Nat.le_trans (Nat.le_trans (Nat.le_trans (Nat.le_trans (Nat.le_trans (Nat.le_trans (Nat.le_trans (Nat.le_trans (Nat.le_refl _) K103.1) K106.1) K110.1) K114.1) K118.1) K122.1) K126.1) K130.1) K134.1) K138.1) E143.1) (Nat.le_of_eq g146.symm)))
      have c272 : AL Z T160.heap b101 k101 .byte (by8 Y9) := (AL.keep (AL.keep (AL.keep (AL.ext E146 (AL.ext E143 aY9)) K149 (ninS ne270 nin0)) K154 (ninS ne271 nin0)) K160 (ninS ne271 nin0))
      have aB : AL Z T160.heap b101 k101 .byte (by8 [(bt p1 (32 : Int32)), (bt p1 (24 : Int32)), (bt p1 (16 : Int32)), (bt p1 (8 : Int32))]) := by have q := c272; rw [hY9, hY8, hY7, hY6, hY5, hY4, hY3, hY2, hY1, hY0, en] at q; exact q
      refine Go.iload (pc' := 187) C X160 at_185 rfl rfl ?_
      refine Go.ifYes (pc' := 197) C X160 at_187 ((if0 _ _).trans (feq (x := (4 : Int32)) (y := (0 : Int32)) (by decide)).2) (by decide) (by decide) ?_
      refine Go.iload (pc' := 199) C X160 at_197 rfl rfl ?_
      refine Go.iconst (z := (5 : Int32)) (pc' := 200) C X160 at_199 rfl rfl ?_
      refine Go.icmpNo (pc' := 203) C X160 at_200 (flt (x := (5 : Int32)) (y := (4 : Int32)) (by decide)).2.2.1 rfl ?_
      have O276 : Ext Z.heap T160.heap := (Ext.keep O161 K160 (allS n_b146 all0))
      refine Go.newO (pc' := 206) C X160 (tw hw 127 rfl) (tw hw 34 rfl) (tw hw 33 rfl) rfl (by decide) (by decide) at_203 rfl ?_
      intro T275 h275 b275 X275 e275 g275 E275 A275 D275
      have Hr277 := CHr.trans Hr162 (CHr.ext E275 Hr162.1)
      have n_b275 : Z.heap.size ≤ b275 := Nat.le_trans O276.1 (Nat.le_of_eq g275.symm)
      have z_b275 : h0.size ≤ b275 := Nat.le_trans (Nat.le_trans (Nat.le_trans (Nat.le_trans (Nat.le_trans (Nat.le_trans (Nat.le_trans (Nat.le_trans (Nat.le_trans (Nat.le_trans (Nat.le_trans (Nat.le_trans (Nat.le_trans (Nat.le_trans (Nat.le_trans (Nat.le_trans (Nat.le_trans (Nat.le_refl _) E101.1) K103.1) K106.1) K110.1) K114.1) K118.1) K122.1) K126.1) K130.1) K134.1) K138.1) E143.1) E146.1) K149.1) K154.1) K160.1) (Nat.le_of_eq g275.symm)
      have s_b275 : Safe Z consts_1 s.vm h275 b275 := Safe.ext E275 Hr162.1 (Safe.new (Nat.le_of_eq g275.symm))
      have F275_value : Fld Z h275 b275 "java/lang/String" "value" "[B" .null := D275 (Or.inr (tw hw 35 rfl)) (ty := (.array .byte)) (by decide)
      have F275_coder : Fld Z h275 b275 "java/lang/String" "coder" "B" (.int (0 : Int32)) := D275 (Or.inr (tw hw 36 rfl)) (ty := .byte) (by decide)
      refine Go.dup (pc' := 207) C X275 at_206 rfl rfl ?_
      refine Go.aload (pc' := 209) C X275 at_207 rfl rfl rfl ?_
      have c279 : AL Z h275 b143 k143 .char [(.int (chI K1 (0 : Int32) k1)), (.int (chI K1 (1 : Int32) k1)), (.int (chI K1 (2 : Int32) k1)), (.int (chI K1 (3 : Int32) k1)), (.int (chI K1 (4 : Int32) k1)), (.int (chI K1 (5 : Int32) k1)), (.int (chI K1 (6 : Int32) k1)), (.int (chI K1 (7 : Int32) k1))] := (AL.ext E275 (AL.keep (AL.keep P149_0 K154 (ninS (Ne.symm ne155) nin0)) K160 (ninS (Ne.symm ne155) nin0)))
      have O280 : Ext Z.heap h275 := (Ext.trans O276 E275)
      refine Go.callI (y := mN17) (a := b275) (pc' := 212) C X275 rfl (tw hw 128 rfl) (tw hw 129 rfl) (by decide) (rm_sI1 l Z a0 hw b275 b143 k143 ([(chI K1 (0 : Int32) k1), (chI K1 (1 : Int32) k1), (chI K1 (2 : Int32) k1), (chI K1 (3 : Int32) k1), (chI K1 (4 : Int32) k1), (chI K1 (5 : Int32) k1), (chI K1 (6 : Int32) k1), (chI K1 (7 : Int32) k1)]) cP h275 O280 A275 F275_value F275_coder (show AL Z h275 b143 k143 .char (ch16 [(chI K1 (0 : Int32) k1), (chI K1 (1 : Int32) k1), (chI K1 (2 : Int32) k1), (chI K1 (3 : Int32) k1), (chI K1 (4 : Int32) k1), (chI K1 (5 : Int32) k1), (chI K1 (6 : Int32) k1), (chI K1 (7 : Int32) k1)]) from c279) SC (by intro x hx; simp only [List.mem_cons, List.not_mem_nil, or_false] at hx; rcases hx with rfl | rfl | rfl | rfl | rfl | rfl | rfl | rfl <;> exact chI_r _ _ _) (show (8 : Nat) < 2 ^ 31 from by decide) (show (8 : Nat) ≤ 16 from by decide) (show ¬ (8 : Nat).toInt32 = (0 : Int32) from by decide) hP n_b275) (tw hw 130 rfl) (tw hw 33 rfl) e275 (argsL := [(.ref b143)]) (rest := [(.ref b275)]) (W := 1) rfl rfl pd_23 rfl (Nat.le_of_eq rfl) rfl (by decide) (by decide) (by decide) (by decide) rfl at_209 rfl ?_
      intro T278 v278 L278 X278 q278
      obtain ⟨v_278, kv_278, rfl, N278q, K278, B278_0, P278_0, P278_1, P278_2⟩ := q278
      have N278 := Fr.app N160 N278q
      have Hr281 := CHr.trans Hr277 (CHr.keep K278 (allS s_b275 all0) Hr277.1)
      have n_v_278 : Z.heap.size ≤ v_278 := Nat.le_trans O280.1 B278_0
      have z_v_278 : h0.size ≤ v_278 := Nat.le_trans (Nat.le_trans (Nat.le_trans (Nat.le_trans (Nat.le_trans (Nat.le_trans (Nat.le_trans (Nat.le_trans (Nat.le_trans (Nat.le_trans (Nat.le_trans (Nat.le_trans (Nat.le_trans (Nat.le_trans (Nat.le_trans (Nat.le_trans (Nat.le_trans (Nat.le_trans (Nat.le_refl _) E101.1) K103.1) K106.1) K110.1) K114.1) K118.1) K122.1) K126.1) K130.1) K134.1) K138.1) E143.1) E146.1) K149.1) K154.1) K160.1) E275.1) B278_0
      have s_v_278 : Safe Z consts_1 s.vm T278.heap v_278 := Safe.keep K278 (allS s_b275 all0) Hr277.1 (Safe.new B278_0)
      refine Go.astore (Ls' := #[.val (.long p1), .second, .val (.long p2), .second, .val (.int p3), .val (.int (4 : Int32)), .val (.ref b101), .val (.int k1), .val (.int k2), .val (.long K1), .second, .val (.long K2), .second, .val (.ref b143), .val (.ref b146), .val (.ref b275), .unset]) (pc' := 214) C X278 at_212 rfl rfl rfl ?_
      refine Go.goto (pc' := 228) C X278 at_214 (by decide) (by decide) ?_
      refine Go.aload (pc' := 230) C X278 at_228 rfl rfl rfl ?_
      have ne283 : b101 ≠ b275 := Nat.ne_of_lt (Nat.lt_of_lt_of_le A101.lt (Nat.le_trans (Nat.le_trans (Nat.le_trans (Nat.le_trans (Nat.le_trans (Nat.le_trans (Nat.le_trans (Nat.le_trans (Nat.le_trans (Nat.le_trans (Nat.le_trans (Nat.le_trans (Nat.le_trans (Nat.le_trans (Nat.le_trans (Nat.le_trans (Nat.le_refl _) K103.1) K106.1) K110.1) K114.1) K118.1) K122.1) K126.1) K130.1) K134.1) K138.1) E143.1) E146.1) K149.1) K154.1) K160.1) (Nat.le_of_eq g275.symm)))
      have c284 : AL Z T278.heap b101 k101 .byte (by8 [(bt p1 (32 : Int32)), (bt p1 (24 : Int32)), (bt p1 (16 : Int32)), (bt p1 (8 : Int32))]) := (AL.keep (AL.ext E275 aB) K278 (ninS ne283 nin0))
      have O285 : Ext Z.heap T278.heap := (Ext.keep O280 K278 (allS n_b275 all0))
      refine Go.callS (y := mN0) (pc' := 233) C X278 (tw hw 39 rfl) (tw hw 40 rfl) (by decide) (rm_b32_4 l Z a0 hw b101 k101 cP ta tk tb ((bt p1 (32 : Int32))) ((bt p1 (24 : Int32))) ((bt p1 (16 : Int32))) ((bt p1 (8 : Int32))) T278.heap O285 c284 SC ST AT hP htb) (tw hw 42 rfl) (tw hw 41 rfl) rfl (argsL := [(.ref b101)]) (rest := []) (W := 0) rfl rfl pd_21 rfl (Nat.le_of_eq rfl) rfl (by decide) (by decide) (by decide) (by decide) at_230 rfl ?_
      intro T282 v282 L282 X282 q282
      obtain ⟨s1_282, v_282, kv_282, c0_282, c1_282, c2_282, c3_282, c4_282, c5_282, c6_282, rfl, N282q, K282, B282_0, B282_1, P282_0, P282_1, P282_2, P282_3, p282_0, p282_1, p282_2, p282_3, p282_4, p282_5, p282_6⟩ := q282
      have N282 := Fr.app N278 N282q
      have Hr286 := CHr.trans Hr281 (CHr.keep K282 all0 Hr281.1)
      have n_s1_282 : Z.heap.size ≤ s1_282 := Nat.le_trans O285.1 B282_0
      have z_s1_282 : h0.size ≤ s1_282 := Nat.le_trans (Nat.le_trans (Nat.le_trans (Nat.le_trans (Nat.le_trans (Nat.le_trans (Nat.le_trans (Nat.le_trans (Nat.le_trans (Nat.le_trans (Nat.le_trans (Nat.le_trans (Nat.le_trans (Nat.le_trans (Nat.le_trans (Nat.le_trans (Nat.le_trans (Nat.le_trans (Nat.le_trans (Nat.le_refl _) E101.1) K103.1) K106.1) K110.1) K114.1) K118.1) K122.1) K126.1) K130.1) K134.1) K138.1) E143.1) E146.1) K149.1) K154.1) K160.1) E275.1) K278.1) B282_0
      have s_s1_282 : Safe Z consts_1 s.vm T282.heap s1_282 := Safe.keep K282 all0 Hr281.1 (Safe.new B282_0)
      have n_v_282 : Z.heap.size ≤ v_282 := Nat.le_trans O285.1 B282_1
      have z_v_282 : h0.size ≤ v_282 := Nat.le_trans (Nat.le_trans (Nat.le_trans (Nat.le_trans (Nat.le_trans (Nat.le_trans (Nat.le_trans (Nat.le_trans (Nat.le_trans (Nat.le_trans (Nat.le_trans (Nat.le_trans (Nat.le_trans (Nat.le_trans (Nat.le_trans (Nat.le_trans (Nat.le_trans (Nat.le_trans (Nat.le_trans (Nat.le_refl _) E101.1) K103.1) K106.1) K110.1) K114.1) K118.1) K122.1) K126.1) K130.1) K134.1) K138.1) E143.1) E146.1) K149.1) K154.1) K160.1) E275.1) K278.1) B282_1
      have s_v_282 : Safe Z consts_1 s.vm T282.heap v_282 := Safe.keep K282 all0 Hr281.1 (Safe.new B282_1)
      refine Go.astore (Ls' := #[.val (.long p1), .second, .val (.long p2), .second, .val (.int p3), .val (.int (4 : Int32)), .val (.ref b101), .val (.int k1), .val (.int k2), .val (.long K1), .second, .val (.long K2), .second, .val (.ref b143), .val (.ref b146), .val (.ref b275), .val (.ref s1_282)]) (pc' := 235) C X282 at_233 rfl rfl rfl ?_
      obtain ⟨i0_0, i0_1, i0_2, i0_3, i0_4, i0_5, i0_6, i0_7⟩ := grp4 _ hK1 p282_0 p282_1 p282_2 p282_3 p282_4 p282_5 p282_6
      refine Go.aload (pc' := 237) C X282 at_235 rfl rfl rfl ?_
      refine Go.aload (pc' := 239) C X282 at_237 rfl rfl rfl ?_
      have c288 : Exa Z T282.heap b275 "java/lang/String" := (Exa.keep (Exa.keep A275 K278) K282)
      have c289 : Fld Z T282.heap b275 "java/lang/String" "value" "[B" (.ref v_278) := (Fld.keep P278_0 K282 nin0)
      have c290 : Fld Z T282.heap b275 "java/lang/String" "coder" "B" (.int (0 : Int32)) := (Fld.keep P278_1 K282 nin0)
      have c291 : AL Z T282.heap v_278 kv_278 .byte (by8 [(chI K1 (0 : Int32) k1), (chI K1 (1 : Int32) k1), (chI K1 (2 : Int32) k1), (chI K1 (3 : Int32) k1), (chI K1 (4 : Int32) k1), (chI K1 (5 : Int32) k1), (chI K1 (6 : Int32) k1), (chI K1 (7 : Int32) k1)]) := (AL.keep P278_2 K282 nin0)
      have ne292 : b275 ≠ s1_282 := Nat.ne_of_lt (Nat.lt_of_lt_of_le A275.lt (Nat.le_trans (Nat.le_trans (Nat.le_refl _) K278.1) B282_0))
      have O293 : Ext Z.heap T282.heap := (Ext.keep O285 K282 all0)
      refine Go.callV (y := mN19) (z := mN19) (a := b275) (pc' := 242) C X282 (tw hw 116 rfl) (tw hw 117 rfl) (notFace_at C.2.1 (tw hw 119 rfl)) (tw hw 119 rfl) (tw hw 118 rfl) c288 (by decide) (rm_eqS l Z a0 hw b275 s1_282 v_278 v_282 kv_278 kv_282 ([(chI K1 (0 : Int32) k1), (chI K1 (1 : Int32) k1), (chI K1 (2 : Int32) k1), (chI K1 (3 : Int32) k1), (chI K1 (4 : Int32) k1), (chI K1 (5 : Int32) k1), (chI K1 (6 : Int32) k1), (chI K1 (7 : Int32) k1)]) ([(alf c0_282), (alf c1_282), (alf c2_282), (alf c3_282), (alf c4_282), (alf c5_282), (alf c6_282), 61]) cP T282.heap O293 SC c288 c289 c290 c291 P282_0 P282_1 P282_2 P282_3 ne292 hP (show (8 : Nat) < 2 ^ 31 from by decide) (show (8 : Nat) < 2 ^ 31 from by decide)) (tw hw 120 rfl) (tw hw 33 rfl) rfl (argsL := [(.ref s1_282)]) (rest := []) (W := 0) rfl rfl pd_22 rfl (Nat.le_of_eq rfl) rfl (by decide) (by decide) (by decide) (by decide) at_239 rfl ?_
      intro T287 v287 L287 X287 q287
      obtain ⟨rfl, rfl, e287⟩ := q287
      have N287 := Fr.app N282 (Fr.nil _)
      have K294 : Keep h0 T282.heap [] := ((((((((((((((((((((Keep.refl h0 []).ext E101).trans K103 (allS (Or.inr z_b101) all0)).trans K106 (allS (Or.inr z_b101) all0)).trans K110 (allS (Or.inr z_b101) all0)).trans K114 (allS (Or.inr z_b101) all0)).trans K118 (allS (Or.inr z_b101) all0)).trans K122 (allS (Or.inr z_b101) all0)).trans K126 (allS (Or.inr z_b101) all0)).trans K130 (allS (Or.inr z_b101) all0)).trans K134 (allS (Or.inr z_b101) all0)).trans K138 (allS (Or.inr z_b101) all0)).ext E143).ext E146).trans K149 (allS (Or.inr z_b143) all0)).trans K154 (allS (Or.inr z_b146) all0)).trans K160 (allS (Or.inr z_b146) all0)).ext E275).trans K278 (allS (Or.inr z_b275) all0)).trans K282 all0)
      have Si295 : Sin s s T282.heap := Sin.mono Si0 (Nat.le_trans (Nat.le_trans (Nat.le_trans (Nat.le_trans (Nat.le_trans (Nat.le_trans (Nat.le_trans (Nat.le_trans (Nat.le_trans (Nat.le_trans (Nat.le_trans (Nat.le_trans (Nat.le_trans (Nat.le_trans (Nat.le_trans (Nat.le_trans (Nat.le_trans (Nat.le_trans (Nat.le_trans (Nat.le_refl _) E101.1) K103.1) K106.1) K110.1) K114.1) K118.1) K122.1) K126.1) K130.1) K134.1) K138.1) E143.1) E146.1) K149.1) K154.1) K160.1) E275.1) K278.1) K282.1)
      exact Go.retNH C X287 (by rw [e287]; exact Si295) (EWc hw) (by rw [e287]; exact Hr286) rfl at_242 (by simp) (by rw [e287]; exact ⟨(by rw [ek1, i0_0, i0_1, i0_2, i0_3, i0_4, i0_5, i0_6, i0_7, if_pos rfl]; rfl), N287, K294⟩) (by decide) (by decide)
    · rw [ez]
      have ne296 : b101 ≠ b143 := Nat.ne_of_lt (Nat.lt_of_lt_of_le A101.lt (Nat.le_trans (Nat.le_trans (Nat.le_trans (Nat.le_trans (Nat.le_trans (Nat.le_trans (Nat.le_trans (Nat.le_trans (Nat.le_trans (Nat.le_trans (Nat.le_trans (Nat.le_refl _) K103.1) K106.1) K110.1) K114.1) K118.1) K122.1) K126.1) K130.1) K134.1) K138.1) (Nat.le_of_eq g143.symm)))
      have ne297 : b101 ≠ b146 := Nat.ne_of_lt (Nat.lt_of_lt_of_le A101.lt (Nat.le_trans (Nat.le_trans (Nat.le_trans (Nat.le_trans (Nat.le_trans (Nat.le_trans (Nat.le_trans (Nat.le_trans (Nat.le_trans (Nat.le_trans (Nat.le_trans (Nat.le_trans (Nat.le_refl _) K103.1) K106.1) K110.1) K114.1) K118.1) K122.1) K126.1) K130.1) K134.1) K138.1) E143.1) (Nat.le_of_eq g146.symm)))
      have c298 : AL Z T160.heap b101 k101 .byte (by8 Y9) := (AL.keep (AL.keep (AL.keep (AL.ext E146 (AL.ext E143 aY9)) K149 (ninS ne296 nin0)) K154 (ninS ne297 nin0)) K160 (ninS ne297 nin0))
      have aB : AL Z T160.heap b101 k101 .byte (by8 [(bt p1 (32 : Int32)), (bt p1 (24 : Int32)), (bt p1 (16 : Int32)), (bt p1 (8 : Int32)), (bt p1 (0 : Int32))]) := by have q := c298; rw [hY9, hY8, hY7, hY6, hY5, hY4, hY3, hY2, hY1, hY0, en] at q; exact q
      refine Go.iload (pc' := 187) C X160 at_185 rfl rfl ?_
      refine Go.ifYes (pc' := 197) C X160 at_187 ((if0 _ _).trans (feq (x := (5 : Int32)) (y := (0 : Int32)) (by decide)).2) (by decide) (by decide) ?_
      refine Go.iload (pc' := 199) C X160 at_197 rfl rfl ?_
      refine Go.iconst (z := (5 : Int32)) (pc' := 200) C X160 at_199 rfl rfl ?_
      refine Go.icmpNo (pc' := 203) C X160 at_200 (flt (x := (5 : Int32)) (y := (5 : Int32)) (by decide)).2.2.1 rfl ?_
      have O302 : Ext Z.heap T160.heap := (Ext.keep O161 K160 (allS n_b146 all0))
      refine Go.newO (pc' := 206) C X160 (tw hw 127 rfl) (tw hw 34 rfl) (tw hw 33 rfl) rfl (by decide) (by decide) at_203 rfl ?_
      intro T301 h301 b301 X301 e301 g301 E301 A301 D301
      have Hr303 := CHr.trans Hr162 (CHr.ext E301 Hr162.1)
      have n_b301 : Z.heap.size ≤ b301 := Nat.le_trans O302.1 (Nat.le_of_eq g301.symm)
      have z_b301 : h0.size ≤ b301 := Nat.le_trans (Nat.le_trans (Nat.le_trans (Nat.le_trans (Nat.le_trans (Nat.le_trans (Nat.le_trans (Nat.le_trans (Nat.le_trans (Nat.le_trans (Nat.le_trans (Nat.le_trans (Nat.le_trans (Nat.le_trans (Nat.le_trans (Nat.le_trans (Nat.le_trans (Nat.le_refl _) E101.1) K103.1) K106.1) K110.1) K114.1) K118.1) K122.1) K126.1) K130.1) K134.1) K138.1) E143.1) E146.1) K149.1) K154.1) K160.1) (Nat.le_of_eq g301.symm)
      have s_b301 : Safe Z consts_1 s.vm h301 b301 := Safe.ext E301 Hr162.1 (Safe.new (Nat.le_of_eq g301.symm))
      have F301_value : Fld Z h301 b301 "java/lang/String" "value" "[B" .null := D301 (Or.inr (tw hw 35 rfl)) (ty := (.array .byte)) (by decide)
      have F301_coder : Fld Z h301 b301 "java/lang/String" "coder" "B" (.int (0 : Int32)) := D301 (Or.inr (tw hw 36 rfl)) (ty := .byte) (by decide)
      refine Go.dup (pc' := 207) C X301 at_206 rfl rfl ?_
      refine Go.aload (pc' := 209) C X301 at_207 rfl rfl rfl ?_
      have c305 : AL Z h301 b143 k143 .char [(.int (chI K1 (0 : Int32) k1)), (.int (chI K1 (1 : Int32) k1)), (.int (chI K1 (2 : Int32) k1)), (.int (chI K1 (3 : Int32) k1)), (.int (chI K1 (4 : Int32) k1)), (.int (chI K1 (5 : Int32) k1)), (.int (chI K1 (6 : Int32) k1)), (.int (chI K1 (7 : Int32) k1))] := (AL.ext E301 (AL.keep (AL.keep P149_0 K154 (ninS (Ne.symm ne155) nin0)) K160 (ninS (Ne.symm ne155) nin0)))
      have O306 : Ext Z.heap h301 := (Ext.trans O302 E301)
      refine Go.callI (y := mN17) (a := b301) (pc' := 212) C X301 rfl (tw hw 128 rfl) (tw hw 129 rfl) (by decide) (rm_sI1 l Z a0 hw b301 b143 k143 ([(chI K1 (0 : Int32) k1), (chI K1 (1 : Int32) k1), (chI K1 (2 : Int32) k1), (chI K1 (3 : Int32) k1), (chI K1 (4 : Int32) k1), (chI K1 (5 : Int32) k1), (chI K1 (6 : Int32) k1), (chI K1 (7 : Int32) k1)]) cP h301 O306 A301 F301_value F301_coder (show AL Z h301 b143 k143 .char (ch16 [(chI K1 (0 : Int32) k1), (chI K1 (1 : Int32) k1), (chI K1 (2 : Int32) k1), (chI K1 (3 : Int32) k1), (chI K1 (4 : Int32) k1), (chI K1 (5 : Int32) k1), (chI K1 (6 : Int32) k1), (chI K1 (7 : Int32) k1)]) from c305) SC (by intro x hx; simp only [List.mem_cons, List.not_mem_nil, or_false] at hx; rcases hx with rfl | rfl | rfl | rfl | rfl | rfl | rfl | rfl <;> exact chI_r _ _ _) (show (8 : Nat) < 2 ^ 31 from by decide) (show (8 : Nat) ≤ 16 from by decide) (show ¬ (8 : Nat).toInt32 = (0 : Int32) from by decide) hP n_b301) (tw hw 130 rfl) (tw hw 33 rfl) e301 (argsL := [(.ref b143)]) (rest := [(.ref b301)]) (W := 1) rfl rfl pd_23 rfl (Nat.le_of_eq rfl) rfl (by decide) (by decide) (by decide) (by decide) rfl at_209 rfl ?_
      intro T304 v304 L304 X304 q304
      obtain ⟨v_304, kv_304, rfl, N304q, K304, B304_0, P304_0, P304_1, P304_2⟩ := q304
      have N304 := Fr.app N160 N304q
      have Hr307 := CHr.trans Hr303 (CHr.keep K304 (allS s_b301 all0) Hr303.1)
      have n_v_304 : Z.heap.size ≤ v_304 := Nat.le_trans O306.1 B304_0
      have z_v_304 : h0.size ≤ v_304 := Nat.le_trans (Nat.le_trans (Nat.le_trans (Nat.le_trans (Nat.le_trans (Nat.le_trans (Nat.le_trans (Nat.le_trans (Nat.le_trans (Nat.le_trans (Nat.le_trans (Nat.le_trans (Nat.le_trans (Nat.le_trans (Nat.le_trans (Nat.le_trans (Nat.le_trans (Nat.le_trans (Nat.le_refl _) E101.1) K103.1) K106.1) K110.1) K114.1) K118.1) K122.1) K126.1) K130.1) K134.1) K138.1) E143.1) E146.1) K149.1) K154.1) K160.1) E301.1) B304_0
      have s_v_304 : Safe Z consts_1 s.vm T304.heap v_304 := Safe.keep K304 (allS s_b301 all0) Hr303.1 (Safe.new B304_0)
      refine Go.astore (Ls' := #[.val (.long p1), .second, .val (.long p2), .second, .val (.int p3), .val (.int (5 : Int32)), .val (.ref b101), .val (.int k1), .val (.int k2), .val (.long K1), .second, .val (.long K2), .second, .val (.ref b143), .val (.ref b146), .val (.ref b301), .unset]) (pc' := 214) C X304 at_212 rfl rfl rfl ?_
      refine Go.goto (pc' := 228) C X304 at_214 (by decide) (by decide) ?_
      refine Go.aload (pc' := 230) C X304 at_228 rfl rfl rfl ?_
      have ne309 : b101 ≠ b301 := Nat.ne_of_lt (Nat.lt_of_lt_of_le A101.lt (Nat.le_trans (Nat.le_trans (Nat.le_trans (Nat.le_trans (Nat.le_trans (Nat.le_trans (Nat.le_trans (Nat.le_trans (Nat.le_trans (Nat.le_trans (Nat.le_trans (Nat.le_trans (Nat.le_trans (Nat.le_trans (Nat.le_trans (Nat.le_trans (Nat.le_refl _) K103.1) K106.1) K110.1) K114.1) K118.1) K122.1) K126.1) K130.1) K134.1) K138.1) E143.1) E146.1) K149.1) K154.1) K160.1) (Nat.le_of_eq g301.symm)))
      have c310 : AL Z T304.heap b101 k101 .byte (by8 [(bt p1 (32 : Int32)), (bt p1 (24 : Int32)), (bt p1 (16 : Int32)), (bt p1 (8 : Int32)), (bt p1 (0 : Int32))]) := (AL.keep (AL.ext E301 aB) K304 (ninS ne309 nin0))
      have O311 : Ext Z.heap T304.heap := (Ext.keep O306 K304 (allS n_b301 all0))
      refine Go.callS (y := mN0) (pc' := 233) C X304 (tw hw 39 rfl) (tw hw 40 rfl) (by decide) (rm_b32_5 l Z a0 hw b101 k101 cP ta tk tb ((bt p1 (32 : Int32))) ((bt p1 (24 : Int32))) ((bt p1 (16 : Int32))) ((bt p1 (8 : Int32))) ((bt p1 (0 : Int32))) T304.heap O311 c310 SC ST AT hP htb) (tw hw 42 rfl) (tw hw 41 rfl) rfl (argsL := [(.ref b101)]) (rest := []) (W := 0) rfl rfl pd_21 rfl (Nat.le_of_eq rfl) rfl (by decide) (by decide) (by decide) (by decide) at_230 rfl ?_
      intro T308 v308 L308 X308 q308
      obtain ⟨s1_308, v_308, kv_308, c0_308, c1_308, c2_308, c3_308, c4_308, c5_308, c6_308, c7_308, rfl, N308q, K308, B308_0, B308_1, P308_0, P308_1, P308_2, P308_3, p308_0, p308_1, p308_2, p308_3, p308_4, p308_5, p308_6, p308_7⟩ := q308
      have N308 := Fr.app N304 N308q
      have Hr312 := CHr.trans Hr307 (CHr.keep K308 all0 Hr307.1)
      have n_s1_308 : Z.heap.size ≤ s1_308 := Nat.le_trans O311.1 B308_0
      have z_s1_308 : h0.size ≤ s1_308 := Nat.le_trans (Nat.le_trans (Nat.le_trans (Nat.le_trans (Nat.le_trans (Nat.le_trans (Nat.le_trans (Nat.le_trans (Nat.le_trans (Nat.le_trans (Nat.le_trans (Nat.le_trans (Nat.le_trans (Nat.le_trans (Nat.le_trans (Nat.le_trans (Nat.le_trans (Nat.le_trans (Nat.le_trans (Nat.le_refl _) E101.1) K103.1) K106.1) K110.1) K114.1) K118.1) K122.1) K126.1) K130.1) K134.1) K138.1) E143.1) E146.1) K149.1) K154.1) K160.1) E301.1) K304.1) B308_0
      have s_s1_308 : Safe Z consts_1 s.vm T308.heap s1_308 := Safe.keep K308 all0 Hr307.1 (Safe.new B308_0)
      have n_v_308 : Z.heap.size ≤ v_308 := Nat.le_trans O311.1 B308_1
      have z_v_308 : h0.size ≤ v_308 := Nat.le_trans (Nat.le_trans (Nat.le_trans (Nat.le_trans (Nat.le_trans (Nat.le_trans (Nat.le_trans (Nat.le_trans (Nat.le_trans (Nat.le_trans (Nat.le_trans (Nat.le_trans (Nat.le_trans (Nat.le_trans (Nat.le_trans (Nat.le_trans (Nat.le_trans (Nat.le_trans (Nat.le_trans (Nat.le_refl _) E101.1) K103.1) K106.1) K110.1) K114.1) K118.1) K122.1) K126.1) K130.1) K134.1) K138.1) E143.1) E146.1) K149.1) K154.1) K160.1) E301.1) K304.1) B308_1
      have s_v_308 : Safe Z consts_1 s.vm T308.heap v_308 := Safe.keep K308 all0 Hr307.1 (Safe.new B308_1)
      refine Go.astore (Ls' := #[.val (.long p1), .second, .val (.long p2), .second, .val (.int p3), .val (.int (5 : Int32)), .val (.ref b101), .val (.int k1), .val (.int k2), .val (.long K1), .second, .val (.long K2), .second, .val (.ref b143), .val (.ref b146), .val (.ref b301), .val (.ref s1_308)]) (pc' := 235) C X308 at_233 rfl rfl rfl ?_
      obtain ⟨i0_0, i0_1, i0_2, i0_3, i0_4, i0_5, i0_6, i0_7⟩ := grp5 _ hK1 p308_0 p308_1 p308_2 p308_3 p308_4 p308_5 p308_6 p308_7
      refine Go.aload (pc' := 237) C X308 at_235 rfl rfl rfl ?_
      refine Go.aload (pc' := 239) C X308 at_237 rfl rfl rfl ?_
      have c314 : Exa Z T308.heap b301 "java/lang/String" := (Exa.keep (Exa.keep A301 K304) K308)
      have c315 : Fld Z T308.heap b301 "java/lang/String" "value" "[B" (.ref v_304) := (Fld.keep P304_0 K308 nin0)
      have c316 : Fld Z T308.heap b301 "java/lang/String" "coder" "B" (.int (0 : Int32)) := (Fld.keep P304_1 K308 nin0)
      have c317 : AL Z T308.heap v_304 kv_304 .byte (by8 [(chI K1 (0 : Int32) k1), (chI K1 (1 : Int32) k1), (chI K1 (2 : Int32) k1), (chI K1 (3 : Int32) k1), (chI K1 (4 : Int32) k1), (chI K1 (5 : Int32) k1), (chI K1 (6 : Int32) k1), (chI K1 (7 : Int32) k1)]) := (AL.keep P304_2 K308 nin0)
      have ne318 : b301 ≠ s1_308 := Nat.ne_of_lt (Nat.lt_of_lt_of_le A301.lt (Nat.le_trans (Nat.le_trans (Nat.le_refl _) K304.1) B308_0))
      have O319 : Ext Z.heap T308.heap := (Ext.keep O311 K308 all0)
      refine Go.callV (y := mN19) (z := mN19) (a := b301) (pc' := 242) C X308 (tw hw 116 rfl) (tw hw 117 rfl) (notFace_at C.2.1 (tw hw 119 rfl)) (tw hw 119 rfl) (tw hw 118 rfl) c314 (by decide) (rm_eqS l Z a0 hw b301 s1_308 v_304 v_308 kv_304 kv_308 ([(chI K1 (0 : Int32) k1), (chI K1 (1 : Int32) k1), (chI K1 (2 : Int32) k1), (chI K1 (3 : Int32) k1), (chI K1 (4 : Int32) k1), (chI K1 (5 : Int32) k1), (chI K1 (6 : Int32) k1), (chI K1 (7 : Int32) k1)]) ([(alf c0_308), (alf c1_308), (alf c2_308), (alf c3_308), (alf c4_308), (alf c5_308), (alf c6_308), (alf c7_308)]) cP T308.heap O319 SC c314 c315 c316 c317 P308_0 P308_1 P308_2 P308_3 ne318 hP (show (8 : Nat) < 2 ^ 31 from by decide) (show (8 : Nat) < 2 ^ 31 from by decide)) (tw hw 120 rfl) (tw hw 33 rfl) rfl (argsL := [(.ref s1_308)]) (rest := []) (W := 0) rfl rfl pd_22 rfl (Nat.le_of_eq rfl) rfl (by decide) (by decide) (by decide) (by decide) at_239 rfl ?_
      intro T313 v313 L313 X313 q313
      obtain ⟨rfl, rfl, e313⟩ := q313
      have N313 := Fr.app N308 (Fr.nil _)
      have K320 : Keep h0 T308.heap [] := ((((((((((((((((((((Keep.refl h0 []).ext E101).trans K103 (allS (Or.inr z_b101) all0)).trans K106 (allS (Or.inr z_b101) all0)).trans K110 (allS (Or.inr z_b101) all0)).trans K114 (allS (Or.inr z_b101) all0)).trans K118 (allS (Or.inr z_b101) all0)).trans K122 (allS (Or.inr z_b101) all0)).trans K126 (allS (Or.inr z_b101) all0)).trans K130 (allS (Or.inr z_b101) all0)).trans K134 (allS (Or.inr z_b101) all0)).trans K138 (allS (Or.inr z_b101) all0)).ext E143).ext E146).trans K149 (allS (Or.inr z_b143) all0)).trans K154 (allS (Or.inr z_b146) all0)).trans K160 (allS (Or.inr z_b146) all0)).ext E301).trans K304 (allS (Or.inr z_b301) all0)).trans K308 all0)
      have Si321 : Sin s s T308.heap := Sin.mono Si0 (Nat.le_trans (Nat.le_trans (Nat.le_trans (Nat.le_trans (Nat.le_trans (Nat.le_trans (Nat.le_trans (Nat.le_trans (Nat.le_trans (Nat.le_trans (Nat.le_trans (Nat.le_trans (Nat.le_trans (Nat.le_trans (Nat.le_trans (Nat.le_trans (Nat.le_trans (Nat.le_trans (Nat.le_trans (Nat.le_refl _) E101.1) K103.1) K106.1) K110.1) K114.1) K118.1) K122.1) K126.1) K130.1) K134.1) K138.1) E143.1) E146.1) K149.1) K154.1) K160.1) E301.1) K304.1) K308.1)
      exact Go.retNH C X313 (by rw [e313]; exact Si321) (EWc hw) (by rw [e313]; exact Hr312) rfl at_242 (by simp) (by rw [e313]; exact ⟨(by rw [ek1, i0_0, i0_1, i0_2, i0_3, i0_4, i0_5, i0_6, i0_7, if_pos rfl]; rfl), N313, K320⟩) (by decide) (by decide)
    · rw [ez]
      have ne322 : b101 ≠ b143 := Nat.ne_of_lt (Nat.lt_of_lt_of_le A101.lt (Nat.le_trans (Nat.le_trans (Nat.le_trans (Nat.le_trans (Nat.le_trans (Nat.le_trans (Nat.le_trans (Nat.le_trans (Nat.le_trans (Nat.le_trans (Nat.le_trans (Nat.le_refl _) K103.1) K106.1) K110.1) K114.1) K118.1) K122.1) K126.1) K130.1) K134.1) K138.1) (Nat.le_of_eq g143.symm)))
      have ne323 : b101 ≠ b146 := Nat.ne_of_lt (Nat.lt_of_lt_of_le A101.lt (Nat.le_trans (Nat.le_trans (Nat.le_trans (Nat.le_trans (Nat.le_trans (Nat.le_trans (Nat.le_trans (Nat.le_trans (Nat.le_trans (Nat.le_trans (Nat.le_trans (Nat.le_trans (Nat.le_refl _) K103.1) K106.1) K110.1) K114.1) K118.1) K122.1) K126.1) K130.1) K134.1) K138.1) E143.1) (Nat.le_of_eq g146.symm)))
      have c324 : AL Z T160.heap b101 k101 .byte (by8 Y9) := (AL.keep (AL.keep (AL.keep (AL.ext E146 (AL.ext E143 aY9)) K149 (ninS ne322 nin0)) K154 (ninS ne323 nin0)) K160 (ninS ne323 nin0))
      have aB : AL Z T160.heap b101 k101 .byte (by8 [(bt p1 (32 : Int32)), (bt p1 (24 : Int32)), (bt p1 (16 : Int32)), (bt p1 (8 : Int32)), (bt p1 (0 : Int32)), (bt p2 (32 : Int32))]) := by have q := c324; rw [hY9, hY8, hY7, hY6, hY5, hY4, hY3, hY2, hY1, hY0, en] at q; exact q
      refine Go.iload (pc' := 187) C X160 at_185 rfl rfl ?_
      refine Go.ifYes (pc' := 197) C X160 at_187 ((if0 _ _).trans (feq (x := (6 : Int32)) (y := (0 : Int32)) (by decide)).2) (by decide) (by decide) ?_
      refine Go.iload (pc' := 199) C X160 at_197 rfl rfl ?_
      refine Go.iconst (z := (5 : Int32)) (pc' := 200) C X160 at_199 rfl rfl ?_
      refine Go.icmpYes (pc' := 217) C X160 at_200 (tlt (x := (5 : Int32)) (y := (6 : Int32)) (by decide)).2.2.1 (by decide) (by decide) ?_
      have O328 : Ext Z.heap T160.heap := (Ext.keep O161 K160 (allS n_b146 all0))
      refine Go.newO (pc' := 220) C X160 (tw hw 127 rfl) (tw hw 34 rfl) (tw hw 33 rfl) rfl (by decide) (by decide) at_217 rfl ?_
      intro T327 h327 b327 X327 e327 g327 E327 A327 D327
      have Hr329 := CHr.trans Hr162 (CHr.ext E327 Hr162.1)
      have n_b327 : Z.heap.size ≤ b327 := Nat.le_trans O328.1 (Nat.le_of_eq g327.symm)
      have z_b327 : h0.size ≤ b327 := Nat.le_trans (Nat.le_trans (Nat.le_trans (Nat.le_trans (Nat.le_trans (Nat.le_trans (Nat.le_trans (Nat.le_trans (Nat.le_trans (Nat.le_trans (Nat.le_trans (Nat.le_trans (Nat.le_trans (Nat.le_trans (Nat.le_trans (Nat.le_trans (Nat.le_trans (Nat.le_refl _) E101.1) K103.1) K106.1) K110.1) K114.1) K118.1) K122.1) K126.1) K130.1) K134.1) K138.1) E143.1) E146.1) K149.1) K154.1) K160.1) (Nat.le_of_eq g327.symm)
      have s_b327 : Safe Z consts_1 s.vm h327 b327 := Safe.ext E327 Hr162.1 (Safe.new (Nat.le_of_eq g327.symm))
      have F327_value : Fld Z h327 b327 "java/lang/String" "value" "[B" .null := D327 (Or.inr (tw hw 35 rfl)) (ty := (.array .byte)) (by decide)
      have F327_coder : Fld Z h327 b327 "java/lang/String" "coder" "B" (.int (0 : Int32)) := D327 (Or.inr (tw hw 36 rfl)) (ty := .byte) (by decide)
      refine Go.dup (pc' := 221) C X327 at_220 rfl rfl ?_
      refine Go.aload (pc' := 223) C X327 at_221 rfl rfl rfl ?_
      have c331 : AL Z h327 b146 k146 .char [(.int (chI K1 (0 : Int32) k1)), (.int (chI K1 (1 : Int32) k1)), (.int (chI K1 (2 : Int32) k1)), (.int (chI K1 (3 : Int32) k1)), (.int (chI K1 (4 : Int32) k1)), (.int (chI K1 (5 : Int32) k1)), (.int (chI K1 (6 : Int32) k1)), (.int (chI K1 (7 : Int32) k1)), (.int (chI K2 (0 : Int32) k2)), (.int (chI K2 (1 : Int32) k2)), (.int (chI K2 (2 : Int32) k2)), (.int (chI K2 (3 : Int32) k2)), (.int (chI K2 (4 : Int32) k2)), (.int (chI K2 (5 : Int32) k2)), (.int (chI K2 (6 : Int32) k2)), (.int (chI K2 (7 : Int32) k2))] := (AL.ext E327 P160_0)
      have O332 : Ext Z.heap h327 := (Ext.trans O328 E327)
      refine Go.callI (y := mN17) (a := b327) (pc' := 226) C X327 rfl (tw hw 128 rfl) (tw hw 129 rfl) (by decide) (rm_sI1 l Z a0 hw b327 b146 k146 ([(chI K1 (0 : Int32) k1), (chI K1 (1 : Int32) k1), (chI K1 (2 : Int32) k1), (chI K1 (3 : Int32) k1), (chI K1 (4 : Int32) k1), (chI K1 (5 : Int32) k1), (chI K1 (6 : Int32) k1), (chI K1 (7 : Int32) k1), (chI K2 (0 : Int32) k2), (chI K2 (1 : Int32) k2), (chI K2 (2 : Int32) k2), (chI K2 (3 : Int32) k2), (chI K2 (4 : Int32) k2), (chI K2 (5 : Int32) k2), (chI K2 (6 : Int32) k2), (chI K2 (7 : Int32) k2)]) cP h327 O332 A327 F327_value F327_coder (show AL Z h327 b146 k146 .char (ch16 [(chI K1 (0 : Int32) k1), (chI K1 (1 : Int32) k1), (chI K1 (2 : Int32) k1), (chI K1 (3 : Int32) k1), (chI K1 (4 : Int32) k1), (chI K1 (5 : Int32) k1), (chI K1 (6 : Int32) k1), (chI K1 (7 : Int32) k1), (chI K2 (0 : Int32) k2), (chI K2 (1 : Int32) k2), (chI K2 (2 : Int32) k2), (chI K2 (3 : Int32) k2), (chI K2 (4 : Int32) k2), (chI K2 (5 : Int32) k2), (chI K2 (6 : Int32) k2), (chI K2 (7 : Int32) k2)]) from c331) SC (by intro x hx; simp only [List.mem_cons, List.not_mem_nil, or_false] at hx; rcases hx with rfl | rfl | rfl | rfl | rfl | rfl | rfl | rfl | rfl | rfl | rfl | rfl | rfl | rfl | rfl | rfl <;> exact chI_r _ _ _) (show (16 : Nat) < 2 ^ 31 from by decide) (show (16 : Nat) ≤ 16 from by decide) (show ¬ (16 : Nat).toInt32 = (0 : Int32) from by decide) hP n_b327) (tw hw 130 rfl) (tw hw 33 rfl) e327 (argsL := [(.ref b146)]) (rest := [(.ref b327)]) (W := 1) rfl rfl pd_23 rfl (Nat.le_of_eq rfl) rfl (by decide) (by decide) (by decide) (by decide) rfl at_223 rfl ?_
      intro T330 v330 L330 X330 q330
      obtain ⟨v_330, kv_330, rfl, N330q, K330, B330_0, P330_0, P330_1, P330_2⟩ := q330
      have N330 := Fr.app N160 N330q
      have Hr333 := CHr.trans Hr329 (CHr.keep K330 (allS s_b327 all0) Hr329.1)
      have n_v_330 : Z.heap.size ≤ v_330 := Nat.le_trans O332.1 B330_0
      have z_v_330 : h0.size ≤ v_330 := Nat.le_trans (Nat.le_trans (Nat.le_trans (Nat.le_trans (Nat.le_trans (Nat.le_trans (Nat.le_trans (Nat.le_trans (Nat.le_trans (Nat.le_trans (Nat.le_trans (Nat.le_trans (Nat.le_trans (Nat.le_trans (Nat.le_trans (Nat.le_trans (Nat.le_trans (Nat.le_trans (Nat.le_refl _) E101.1) K103.1) K106.1) K110.1) K114.1) K118.1) K122.1) K126.1) K130.1) K134.1) K138.1) E143.1) E146.1) K149.1) K154.1) K160.1) E327.1) B330_0
      have s_v_330 : Safe Z consts_1 s.vm T330.heap v_330 := Safe.keep K330 (allS s_b327 all0) Hr329.1 (Safe.new B330_0)
      refine Go.astore (Ls' := #[.val (.long p1), .second, .val (.long p2), .second, .val (.int p3), .val (.int (6 : Int32)), .val (.ref b101), .val (.int k1), .val (.int k2), .val (.long K1), .second, .val (.long K2), .second, .val (.ref b143), .val (.ref b146), .val (.ref b327), .unset]) (pc' := 228) C X330 at_226 rfl rfl rfl ?_
      refine Go.aload (pc' := 230) C X330 at_228 rfl rfl rfl ?_
      have ne335 : b101 ≠ b327 := Nat.ne_of_lt (Nat.lt_of_lt_of_le A101.lt (Nat.le_trans (Nat.le_trans (Nat.le_trans (Nat.le_trans (Nat.le_trans (Nat.le_trans (Nat.le_trans (Nat.le_trans (Nat.le_trans (Nat.le_trans (Nat.le_trans (Nat.le_trans (Nat.le_trans (Nat.le_trans (Nat.le_trans (Nat.le_trans (Nat.le_refl _) K103.1) K106.1) K110.1) K114.1) K118.1) K122.1) K126.1) K130.1) K134.1) K138.1) E143.1) E146.1) K149.1) K154.1) K160.1) (Nat.le_of_eq g327.symm)))
      have c336 : AL Z T330.heap b101 k101 .byte (by8 [(bt p1 (32 : Int32)), (bt p1 (24 : Int32)), (bt p1 (16 : Int32)), (bt p1 (8 : Int32)), (bt p1 (0 : Int32)), (bt p2 (32 : Int32))]) := (AL.keep (AL.ext E327 aB) K330 (ninS ne335 nin0))
      have O337 : Ext Z.heap T330.heap := (Ext.keep O332 K330 (allS n_b327 all0))
      refine Go.callS (y := mN0) (pc' := 233) C X330 (tw hw 39 rfl) (tw hw 40 rfl) (by decide) (rm_b32_6 l Z a0 hw b101 k101 cP ta tk tb ((bt p1 (32 : Int32))) ((bt p1 (24 : Int32))) ((bt p1 (16 : Int32))) ((bt p1 (8 : Int32))) ((bt p1 (0 : Int32))) ((bt p2 (32 : Int32))) T330.heap O337 c336 SC ST AT hP htb) (tw hw 42 rfl) (tw hw 41 rfl) rfl (argsL := [(.ref b101)]) (rest := []) (W := 0) rfl rfl pd_21 rfl (Nat.le_of_eq rfl) rfl (by decide) (by decide) (by decide) (by decide) at_230 rfl ?_
      intro T334 v334 L334 X334 q334
      obtain ⟨s1_334, v_334, kv_334, c0_334, c1_334, c2_334, c3_334, c4_334, c5_334, c6_334, c7_334, c8_334, c9_334, rfl, N334q, K334, B334_0, B334_1, P334_0, P334_1, P334_2, P334_3, p334_0, p334_1, p334_2, p334_3, p334_4, p334_5, p334_6, p334_7, p334_8, p334_9⟩ := q334
      have N334 := Fr.app N330 N334q
      have Hr338 := CHr.trans Hr333 (CHr.keep K334 all0 Hr333.1)
      have n_s1_334 : Z.heap.size ≤ s1_334 := Nat.le_trans O337.1 B334_0
      have z_s1_334 : h0.size ≤ s1_334 := Nat.le_trans (Nat.le_trans (Nat.le_trans (Nat.le_trans (Nat.le_trans (Nat.le_trans (Nat.le_trans (Nat.le_trans (Nat.le_trans (Nat.le_trans (Nat.le_trans (Nat.le_trans (Nat.le_trans (Nat.le_trans (Nat.le_trans (Nat.le_trans (Nat.le_trans (Nat.le_trans (Nat.le_trans (Nat.le_refl _) E101.1) K103.1) K106.1) K110.1) K114.1) K118.1) K122.1) K126.1) K130.1) K134.1) K138.1) E143.1) E146.1) K149.1) K154.1) K160.1) E327.1) K330.1) B334_0
      have s_s1_334 : Safe Z consts_1 s.vm T334.heap s1_334 := Safe.keep K334 all0 Hr333.1 (Safe.new B334_0)
      have n_v_334 : Z.heap.size ≤ v_334 := Nat.le_trans O337.1 B334_1
      have z_v_334 : h0.size ≤ v_334 := Nat.le_trans (Nat.le_trans (Nat.le_trans (Nat.le_trans (Nat.le_trans (Nat.le_trans (Nat.le_trans (Nat.le_trans (Nat.le_trans (Nat.le_trans (Nat.le_trans (Nat.le_trans (Nat.le_trans (Nat.le_trans (Nat.le_trans (Nat.le_trans (Nat.le_trans (Nat.le_trans (Nat.le_trans (Nat.le_refl _) E101.1) K103.1) K106.1) K110.1) K114.1) K118.1) K122.1) K126.1) K130.1) K134.1) K138.1) E143.1) E146.1) K149.1) K154.1) K160.1) E327.1) K330.1) B334_1
      have s_v_334 : Safe Z consts_1 s.vm T334.heap v_334 := Safe.keep K334 all0 Hr333.1 (Safe.new B334_1)
      refine Go.astore (Ls' := #[.val (.long p1), .second, .val (.long p2), .second, .val (.int p3), .val (.int (6 : Int32)), .val (.ref b101), .val (.int k1), .val (.int k2), .val (.long K1), .second, .val (.long K2), .second, .val (.ref b143), .val (.ref b146), .val (.ref b327), .val (.ref s1_334)]) (pc' := 235) C X334 at_233 rfl rfl rfl ?_
      obtain ⟨i0_0, i0_1, i0_2, i0_3, i0_4, i0_5, i0_6, i0_7⟩ := grp5 _ hK1 p334_0 p334_1 p334_2 p334_3 p334_4 p334_5 p334_6 p334_7
      obtain ⟨i1_0, i1_1, i1_2, i1_3, i1_4, i1_5, i1_6, i1_7⟩ := grp1 _ hK2 p334_8 p334_9
      refine Go.aload (pc' := 237) C X334 at_235 rfl rfl rfl ?_
      refine Go.aload (pc' := 239) C X334 at_237 rfl rfl rfl ?_
      have c340 : Exa Z T334.heap b327 "java/lang/String" := (Exa.keep (Exa.keep A327 K330) K334)
      have c341 : Fld Z T334.heap b327 "java/lang/String" "value" "[B" (.ref v_330) := (Fld.keep P330_0 K334 nin0)
      have c342 : Fld Z T334.heap b327 "java/lang/String" "coder" "B" (.int (0 : Int32)) := (Fld.keep P330_1 K334 nin0)
      have c343 : AL Z T334.heap v_330 kv_330 .byte (by8 [(chI K1 (0 : Int32) k1), (chI K1 (1 : Int32) k1), (chI K1 (2 : Int32) k1), (chI K1 (3 : Int32) k1), (chI K1 (4 : Int32) k1), (chI K1 (5 : Int32) k1), (chI K1 (6 : Int32) k1), (chI K1 (7 : Int32) k1), (chI K2 (0 : Int32) k2), (chI K2 (1 : Int32) k2), (chI K2 (2 : Int32) k2), (chI K2 (3 : Int32) k2), (chI K2 (4 : Int32) k2), (chI K2 (5 : Int32) k2), (chI K2 (6 : Int32) k2), (chI K2 (7 : Int32) k2)]) := (AL.keep P330_2 K334 nin0)
      have ne344 : b327 ≠ s1_334 := Nat.ne_of_lt (Nat.lt_of_lt_of_le A327.lt (Nat.le_trans (Nat.le_trans (Nat.le_refl _) K330.1) B334_0))
      have O345 : Ext Z.heap T334.heap := (Ext.keep O337 K334 all0)
      refine Go.callV (y := mN19) (z := mN19) (a := b327) (pc' := 242) C X334 (tw hw 116 rfl) (tw hw 117 rfl) (notFace_at C.2.1 (tw hw 119 rfl)) (tw hw 119 rfl) (tw hw 118 rfl) c340 (by decide) (rm_eqS l Z a0 hw b327 s1_334 v_330 v_334 kv_330 kv_334 ([(chI K1 (0 : Int32) k1), (chI K1 (1 : Int32) k1), (chI K1 (2 : Int32) k1), (chI K1 (3 : Int32) k1), (chI K1 (4 : Int32) k1), (chI K1 (5 : Int32) k1), (chI K1 (6 : Int32) k1), (chI K1 (7 : Int32) k1), (chI K2 (0 : Int32) k2), (chI K2 (1 : Int32) k2), (chI K2 (2 : Int32) k2), (chI K2 (3 : Int32) k2), (chI K2 (4 : Int32) k2), (chI K2 (5 : Int32) k2), (chI K2 (6 : Int32) k2), (chI K2 (7 : Int32) k2)]) ([(alf c0_334), (alf c1_334), (alf c2_334), (alf c3_334), (alf c4_334), (alf c5_334), (alf c6_334), (alf c7_334), (alf c8_334), (alf c9_334), 61, 61, 61, 61, 61, 61]) cP T334.heap O345 SC c340 c341 c342 c343 P334_0 P334_1 P334_2 P334_3 ne344 hP (show (16 : Nat) < 2 ^ 31 from by decide) (show (16 : Nat) < 2 ^ 31 from by decide)) (tw hw 120 rfl) (tw hw 33 rfl) rfl (argsL := [(.ref s1_334)]) (rest := []) (W := 0) rfl rfl pd_22 rfl (Nat.le_of_eq rfl) rfl (by decide) (by decide) (by decide) (by decide) at_239 rfl ?_
      intro T339 v339 L339 X339 q339
      obtain ⟨rfl, rfl, e339⟩ := q339
      have N339 := Fr.app N334 (Fr.nil _)
      have K346 : Keep h0 T334.heap [] := ((((((((((((((((((((Keep.refl h0 []).ext E101).trans K103 (allS (Or.inr z_b101) all0)).trans K106 (allS (Or.inr z_b101) all0)).trans K110 (allS (Or.inr z_b101) all0)).trans K114 (allS (Or.inr z_b101) all0)).trans K118 (allS (Or.inr z_b101) all0)).trans K122 (allS (Or.inr z_b101) all0)).trans K126 (allS (Or.inr z_b101) all0)).trans K130 (allS (Or.inr z_b101) all0)).trans K134 (allS (Or.inr z_b101) all0)).trans K138 (allS (Or.inr z_b101) all0)).ext E143).ext E146).trans K149 (allS (Or.inr z_b143) all0)).trans K154 (allS (Or.inr z_b146) all0)).trans K160 (allS (Or.inr z_b146) all0)).ext E327).trans K330 (allS (Or.inr z_b327) all0)).trans K334 all0)
      have Si347 : Sin s s T334.heap := Sin.mono Si0 (Nat.le_trans (Nat.le_trans (Nat.le_trans (Nat.le_trans (Nat.le_trans (Nat.le_trans (Nat.le_trans (Nat.le_trans (Nat.le_trans (Nat.le_trans (Nat.le_trans (Nat.le_trans (Nat.le_trans (Nat.le_trans (Nat.le_trans (Nat.le_trans (Nat.le_trans (Nat.le_trans (Nat.le_trans (Nat.le_refl _) E101.1) K103.1) K106.1) K110.1) K114.1) K118.1) K122.1) K126.1) K130.1) K134.1) K138.1) E143.1) E146.1) K149.1) K154.1) K160.1) E327.1) K330.1) K334.1)
      exact Go.retNH C X339 (by rw [e339]; exact Si347) (EWc hw) (by rw [e339]; exact Hr338) rfl at_242 (by simp) (by rw [e339]; exact ⟨(by rw [ek1, ek2, i0_0, i0_1, i0_2, i0_3, i0_4, i0_5, i0_6, i0_7, i1_0, i1_1, i1_2, i1_3, i1_4, i1_5, i1_6, i1_7, if_pos rfl]; rfl), N339, K346⟩) (by decide) (by decide)
    · rw [ez]
      have ne348 : b101 ≠ b143 := Nat.ne_of_lt (Nat.lt_of_lt_of_le A101.lt (Nat.le_trans (Nat.le_trans (Nat.le_trans (Nat.le_trans (Nat.le_trans (Nat.le_trans (Nat.le_trans (Nat.le_trans (Nat.le_trans (Nat.le_trans (Nat.le_trans (Nat.le_refl _) K103.1) K106.1) K110.1) K114.1) K118.1) K122.1) K126.1) K130.1) K134.1) K138.1) (Nat.le_of_eq g143.symm)))
      have ne349 : b101 ≠ b146 := Nat.ne_of_lt (Nat.lt_of_lt_of_le A101.lt (Nat.le_trans (Nat.le_trans (Nat.le_trans (Nat.le_trans (Nat.le_trans (Nat.le_trans (Nat.le_trans (Nat.le_trans (Nat.le_trans (Nat.le_trans (Nat.le_trans (Nat.le_trans (Nat.le_refl _) K103.1) K106.1) K110.1) K114.1) K118.1) K122.1) K126.1) K130.1) K134.1) K138.1) E143.1) (Nat.le_of_eq g146.symm)))
      have c350 : AL Z T160.heap b101 k101 .byte (by8 Y9) := (AL.keep (AL.keep (AL.keep (AL.ext E146 (AL.ext E143 aY9)) K149 (ninS ne348 nin0)) K154 (ninS ne349 nin0)) K160 (ninS ne349 nin0))
      have aB : AL Z T160.heap b101 k101 .byte (by8 [(bt p1 (32 : Int32)), (bt p1 (24 : Int32)), (bt p1 (16 : Int32)), (bt p1 (8 : Int32)), (bt p1 (0 : Int32)), (bt p2 (32 : Int32)), (bt p2 (24 : Int32))]) := by have q := c350; rw [hY9, hY8, hY7, hY6, hY5, hY4, hY3, hY2, hY1, hY0, en] at q; exact q
      refine Go.iload (pc' := 187) C X160 at_185 rfl rfl ?_
      refine Go.ifYes (pc' := 197) C X160 at_187 ((if0 _ _).trans (feq (x := (7 : Int32)) (y := (0 : Int32)) (by decide)).2) (by decide) (by decide) ?_
      refine Go.iload (pc' := 199) C X160 at_197 rfl rfl ?_
      refine Go.iconst (z := (5 : Int32)) (pc' := 200) C X160 at_199 rfl rfl ?_
      refine Go.icmpYes (pc' := 217) C X160 at_200 (tlt (x := (5 : Int32)) (y := (7 : Int32)) (by decide)).2.2.1 (by decide) (by decide) ?_
      have O354 : Ext Z.heap T160.heap := (Ext.keep O161 K160 (allS n_b146 all0))
      refine Go.newO (pc' := 220) C X160 (tw hw 127 rfl) (tw hw 34 rfl) (tw hw 33 rfl) rfl (by decide) (by decide) at_217 rfl ?_
      intro T353 h353 b353 X353 e353 g353 E353 A353 D353
      have Hr355 := CHr.trans Hr162 (CHr.ext E353 Hr162.1)
      have n_b353 : Z.heap.size ≤ b353 := Nat.le_trans O354.1 (Nat.le_of_eq g353.symm)
      have z_b353 : h0.size ≤ b353 := Nat.le_trans (Nat.le_trans (Nat.le_trans (Nat.le_trans (Nat.le_trans (Nat.le_trans (Nat.le_trans (Nat.le_trans (Nat.le_trans (Nat.le_trans (Nat.le_trans (Nat.le_trans (Nat.le_trans (Nat.le_trans (Nat.le_trans (Nat.le_trans (Nat.le_trans (Nat.le_refl _) E101.1) K103.1) K106.1) K110.1) K114.1) K118.1) K122.1) K126.1) K130.1) K134.1) K138.1) E143.1) E146.1) K149.1) K154.1) K160.1) (Nat.le_of_eq g353.symm)
      have s_b353 : Safe Z consts_1 s.vm h353 b353 := Safe.ext E353 Hr162.1 (Safe.new (Nat.le_of_eq g353.symm))
      have F353_value : Fld Z h353 b353 "java/lang/String" "value" "[B" .null := D353 (Or.inr (tw hw 35 rfl)) (ty := (.array .byte)) (by decide)
      have F353_coder : Fld Z h353 b353 "java/lang/String" "coder" "B" (.int (0 : Int32)) := D353 (Or.inr (tw hw 36 rfl)) (ty := .byte) (by decide)
      refine Go.dup (pc' := 221) C X353 at_220 rfl rfl ?_
      refine Go.aload (pc' := 223) C X353 at_221 rfl rfl rfl ?_
      have c357 : AL Z h353 b146 k146 .char [(.int (chI K1 (0 : Int32) k1)), (.int (chI K1 (1 : Int32) k1)), (.int (chI K1 (2 : Int32) k1)), (.int (chI K1 (3 : Int32) k1)), (.int (chI K1 (4 : Int32) k1)), (.int (chI K1 (5 : Int32) k1)), (.int (chI K1 (6 : Int32) k1)), (.int (chI K1 (7 : Int32) k1)), (.int (chI K2 (0 : Int32) k2)), (.int (chI K2 (1 : Int32) k2)), (.int (chI K2 (2 : Int32) k2)), (.int (chI K2 (3 : Int32) k2)), (.int (chI K2 (4 : Int32) k2)), (.int (chI K2 (5 : Int32) k2)), (.int (chI K2 (6 : Int32) k2)), (.int (chI K2 (7 : Int32) k2))] := (AL.ext E353 P160_0)
      have O358 : Ext Z.heap h353 := (Ext.trans O354 E353)
      refine Go.callI (y := mN17) (a := b353) (pc' := 226) C X353 rfl (tw hw 128 rfl) (tw hw 129 rfl) (by decide) (rm_sI1 l Z a0 hw b353 b146 k146 ([(chI K1 (0 : Int32) k1), (chI K1 (1 : Int32) k1), (chI K1 (2 : Int32) k1), (chI K1 (3 : Int32) k1), (chI K1 (4 : Int32) k1), (chI K1 (5 : Int32) k1), (chI K1 (6 : Int32) k1), (chI K1 (7 : Int32) k1), (chI K2 (0 : Int32) k2), (chI K2 (1 : Int32) k2), (chI K2 (2 : Int32) k2), (chI K2 (3 : Int32) k2), (chI K2 (4 : Int32) k2), (chI K2 (5 : Int32) k2), (chI K2 (6 : Int32) k2), (chI K2 (7 : Int32) k2)]) cP h353 O358 A353 F353_value F353_coder (show AL Z h353 b146 k146 .char (ch16 [(chI K1 (0 : Int32) k1), (chI K1 (1 : Int32) k1), (chI K1 (2 : Int32) k1), (chI K1 (3 : Int32) k1), (chI K1 (4 : Int32) k1), (chI K1 (5 : Int32) k1), (chI K1 (6 : Int32) k1), (chI K1 (7 : Int32) k1), (chI K2 (0 : Int32) k2), (chI K2 (1 : Int32) k2), (chI K2 (2 : Int32) k2), (chI K2 (3 : Int32) k2), (chI K2 (4 : Int32) k2), (chI K2 (5 : Int32) k2), (chI K2 (6 : Int32) k2), (chI K2 (7 : Int32) k2)]) from c357) SC (by intro x hx; simp only [List.mem_cons, List.not_mem_nil, or_false] at hx; rcases hx with rfl | rfl | rfl | rfl | rfl | rfl | rfl | rfl | rfl | rfl | rfl | rfl | rfl | rfl | rfl | rfl <;> exact chI_r _ _ _) (show (16 : Nat) < 2 ^ 31 from by decide) (show (16 : Nat) ≤ 16 from by decide) (show ¬ (16 : Nat).toInt32 = (0 : Int32) from by decide) hP n_b353) (tw hw 130 rfl) (tw hw 33 rfl) e353 (argsL := [(.ref b146)]) (rest := [(.ref b353)]) (W := 1) rfl rfl pd_23 rfl (Nat.le_of_eq rfl) rfl (by decide) (by decide) (by decide) (by decide) rfl at_223 rfl ?_
      intro T356 v356 L356 X356 q356
      obtain ⟨v_356, kv_356, rfl, N356q, K356, B356_0, P356_0, P356_1, P356_2⟩ := q356
      have N356 := Fr.app N160 N356q
      have Hr359 := CHr.trans Hr355 (CHr.keep K356 (allS s_b353 all0) Hr355.1)
      have n_v_356 : Z.heap.size ≤ v_356 := Nat.le_trans O358.1 B356_0
      have z_v_356 : h0.size ≤ v_356 := Nat.le_trans (Nat.le_trans (Nat.le_trans (Nat.le_trans (Nat.le_trans (Nat.le_trans (Nat.le_trans (Nat.le_trans (Nat.le_trans (Nat.le_trans (Nat.le_trans (Nat.le_trans (Nat.le_trans (Nat.le_trans (Nat.le_trans (Nat.le_trans (Nat.le_trans (Nat.le_trans (Nat.le_refl _) E101.1) K103.1) K106.1) K110.1) K114.1) K118.1) K122.1) K126.1) K130.1) K134.1) K138.1) E143.1) E146.1) K149.1) K154.1) K160.1) E353.1) B356_0
      have s_v_356 : Safe Z consts_1 s.vm T356.heap v_356 := Safe.keep K356 (allS s_b353 all0) Hr355.1 (Safe.new B356_0)
      refine Go.astore (Ls' := #[.val (.long p1), .second, .val (.long p2), .second, .val (.int p3), .val (.int (7 : Int32)), .val (.ref b101), .val (.int k1), .val (.int k2), .val (.long K1), .second, .val (.long K2), .second, .val (.ref b143), .val (.ref b146), .val (.ref b353), .unset]) (pc' := 228) C X356 at_226 rfl rfl rfl ?_
      refine Go.aload (pc' := 230) C X356 at_228 rfl rfl rfl ?_
      have ne361 : b101 ≠ b353 := Nat.ne_of_lt (Nat.lt_of_lt_of_le A101.lt (Nat.le_trans (Nat.le_trans (Nat.le_trans (Nat.le_trans (Nat.le_trans (Nat.le_trans (Nat.le_trans (Nat.le_trans (Nat.le_trans (Nat.le_trans (Nat.le_trans (Nat.le_trans (Nat.le_trans (Nat.le_trans (Nat.le_trans (Nat.le_trans (Nat.le_refl _) K103.1) K106.1) K110.1) K114.1) K118.1) K122.1) K126.1) K130.1) K134.1) K138.1) E143.1) E146.1) K149.1) K154.1) K160.1) (Nat.le_of_eq g353.symm)))
      have c362 : AL Z T356.heap b101 k101 .byte (by8 [(bt p1 (32 : Int32)), (bt p1 (24 : Int32)), (bt p1 (16 : Int32)), (bt p1 (8 : Int32)), (bt p1 (0 : Int32)), (bt p2 (32 : Int32)), (bt p2 (24 : Int32))]) := (AL.keep (AL.ext E353 aB) K356 (ninS ne361 nin0))
      have O363 : Ext Z.heap T356.heap := (Ext.keep O358 K356 (allS n_b353 all0))
      refine Go.callS (y := mN0) (pc' := 233) C X356 (tw hw 39 rfl) (tw hw 40 rfl) (by decide) (rm_b32_7 l Z a0 hw b101 k101 cP ta tk tb ((bt p1 (32 : Int32))) ((bt p1 (24 : Int32))) ((bt p1 (16 : Int32))) ((bt p1 (8 : Int32))) ((bt p1 (0 : Int32))) ((bt p2 (32 : Int32))) ((bt p2 (24 : Int32))) T356.heap O363 c362 SC ST AT hP htb) (tw hw 42 rfl) (tw hw 41 rfl) rfl (argsL := [(.ref b101)]) (rest := []) (W := 0) rfl rfl pd_21 rfl (Nat.le_of_eq rfl) rfl (by decide) (by decide) (by decide) (by decide) at_230 rfl ?_
      intro T360 v360 L360 X360 q360
      obtain ⟨s1_360, v_360, kv_360, c0_360, c1_360, c2_360, c3_360, c4_360, c5_360, c6_360, c7_360, c8_360, c9_360, c10_360, c11_360, rfl, N360q, K360, B360_0, B360_1, P360_0, P360_1, P360_2, P360_3, p360_0, p360_1, p360_2, p360_3, p360_4, p360_5, p360_6, p360_7, p360_8, p360_9, p360_10, p360_11⟩ := q360
      have N360 := Fr.app N356 N360q
      have Hr364 := CHr.trans Hr359 (CHr.keep K360 all0 Hr359.1)
      have n_s1_360 : Z.heap.size ≤ s1_360 := Nat.le_trans O363.1 B360_0
      have z_s1_360 : h0.size ≤ s1_360 := Nat.le_trans (Nat.le_trans (Nat.le_trans (Nat.le_trans (Nat.le_trans (Nat.le_trans (Nat.le_trans (Nat.le_trans (Nat.le_trans (Nat.le_trans (Nat.le_trans (Nat.le_trans (Nat.le_trans (Nat.le_trans (Nat.le_trans (Nat.le_trans (Nat.le_trans (Nat.le_trans (Nat.le_trans (Nat.le_refl _) E101.1) K103.1) K106.1) K110.1) K114.1) K118.1) K122.1) K126.1) K130.1) K134.1) K138.1) E143.1) E146.1) K149.1) K154.1) K160.1) E353.1) K356.1) B360_0
      have s_s1_360 : Safe Z consts_1 s.vm T360.heap s1_360 := Safe.keep K360 all0 Hr359.1 (Safe.new B360_0)
      have n_v_360 : Z.heap.size ≤ v_360 := Nat.le_trans O363.1 B360_1
      have z_v_360 : h0.size ≤ v_360 := Nat.le_trans (Nat.le_trans (Nat.le_trans (Nat.le_trans (Nat.le_trans (Nat.le_trans (Nat.le_trans (Nat.le_trans (Nat.le_trans (Nat.le_trans (Nat.le_trans (Nat.le_trans (Nat.le_trans (Nat.le_trans (Nat.le_trans (Nat.le_trans (Nat.le_trans (Nat.le_trans (Nat.le_trans (Nat.le_refl _) E101.1) K103.1) K106.1) K110.1) K114.1) K118.1) K122.1) K126.1) K130.1) K134.1) K138.1) E143.1) E146.1) K149.1) K154.1) K160.1) E353.1) K356.1) B360_1
      have s_v_360 : Safe Z consts_1 s.vm T360.heap v_360 := Safe.keep K360 all0 Hr359.1 (Safe.new B360_1)
      refine Go.astore (Ls' := #[.val (.long p1), .second, .val (.long p2), .second, .val (.int p3), .val (.int (7 : Int32)), .val (.ref b101), .val (.int k1), .val (.int k2), .val (.long K1), .second, .val (.long K2), .second, .val (.ref b143), .val (.ref b146), .val (.ref b353), .val (.ref s1_360)]) (pc' := 235) C X360 at_233 rfl rfl rfl ?_
      obtain ⟨i0_0, i0_1, i0_2, i0_3, i0_4, i0_5, i0_6, i0_7⟩ := grp5 _ hK1 p360_0 p360_1 p360_2 p360_3 p360_4 p360_5 p360_6 p360_7
      obtain ⟨i1_0, i1_1, i1_2, i1_3, i1_4, i1_5, i1_6, i1_7⟩ := grp2 _ hK2 p360_8 p360_9 p360_10 p360_11
      refine Go.aload (pc' := 237) C X360 at_235 rfl rfl rfl ?_
      refine Go.aload (pc' := 239) C X360 at_237 rfl rfl rfl ?_
      have c366 : Exa Z T360.heap b353 "java/lang/String" := (Exa.keep (Exa.keep A353 K356) K360)
      have c367 : Fld Z T360.heap b353 "java/lang/String" "value" "[B" (.ref v_356) := (Fld.keep P356_0 K360 nin0)
      have c368 : Fld Z T360.heap b353 "java/lang/String" "coder" "B" (.int (0 : Int32)) := (Fld.keep P356_1 K360 nin0)
      have c369 : AL Z T360.heap v_356 kv_356 .byte (by8 [(chI K1 (0 : Int32) k1), (chI K1 (1 : Int32) k1), (chI K1 (2 : Int32) k1), (chI K1 (3 : Int32) k1), (chI K1 (4 : Int32) k1), (chI K1 (5 : Int32) k1), (chI K1 (6 : Int32) k1), (chI K1 (7 : Int32) k1), (chI K2 (0 : Int32) k2), (chI K2 (1 : Int32) k2), (chI K2 (2 : Int32) k2), (chI K2 (3 : Int32) k2), (chI K2 (4 : Int32) k2), (chI K2 (5 : Int32) k2), (chI K2 (6 : Int32) k2), (chI K2 (7 : Int32) k2)]) := (AL.keep P356_2 K360 nin0)
      have ne370 : b353 ≠ s1_360 := Nat.ne_of_lt (Nat.lt_of_lt_of_le A353.lt (Nat.le_trans (Nat.le_trans (Nat.le_refl _) K356.1) B360_0))
      have O371 : Ext Z.heap T360.heap := (Ext.keep O363 K360 all0)
      refine Go.callV (y := mN19) (z := mN19) (a := b353) (pc' := 242) C X360 (tw hw 116 rfl) (tw hw 117 rfl) (notFace_at C.2.1 (tw hw 119 rfl)) (tw hw 119 rfl) (tw hw 118 rfl) c366 (by decide) (rm_eqS l Z a0 hw b353 s1_360 v_356 v_360 kv_356 kv_360 ([(chI K1 (0 : Int32) k1), (chI K1 (1 : Int32) k1), (chI K1 (2 : Int32) k1), (chI K1 (3 : Int32) k1), (chI K1 (4 : Int32) k1), (chI K1 (5 : Int32) k1), (chI K1 (6 : Int32) k1), (chI K1 (7 : Int32) k1), (chI K2 (0 : Int32) k2), (chI K2 (1 : Int32) k2), (chI K2 (2 : Int32) k2), (chI K2 (3 : Int32) k2), (chI K2 (4 : Int32) k2), (chI K2 (5 : Int32) k2), (chI K2 (6 : Int32) k2), (chI K2 (7 : Int32) k2)]) ([(alf c0_360), (alf c1_360), (alf c2_360), (alf c3_360), (alf c4_360), (alf c5_360), (alf c6_360), (alf c7_360), (alf c8_360), (alf c9_360), (alf c10_360), (alf c11_360), 61, 61, 61, 61]) cP T360.heap O371 SC c366 c367 c368 c369 P360_0 P360_1 P360_2 P360_3 ne370 hP (show (16 : Nat) < 2 ^ 31 from by decide) (show (16 : Nat) < 2 ^ 31 from by decide)) (tw hw 120 rfl) (tw hw 33 rfl) rfl (argsL := [(.ref s1_360)]) (rest := []) (W := 0) rfl rfl pd_22 rfl (Nat.le_of_eq rfl) rfl (by decide) (by decide) (by decide) (by decide) at_239 rfl ?_
      intro T365 v365 L365 X365 q365
      obtain ⟨rfl, rfl, e365⟩ := q365
      have N365 := Fr.app N360 (Fr.nil _)
      have K372 : Keep h0 T360.heap [] := ((((((((((((((((((((Keep.refl h0 []).ext E101).trans K103 (allS (Or.inr z_b101) all0)).trans K106 (allS (Or.inr z_b101) all0)).trans K110 (allS (Or.inr z_b101) all0)).trans K114 (allS (Or.inr z_b101) all0)).trans K118 (allS (Or.inr z_b101) all0)).trans K122 (allS (Or.inr z_b101) all0)).trans K126 (allS (Or.inr z_b101) all0)).trans K130 (allS (Or.inr z_b101) all0)).trans K134 (allS (Or.inr z_b101) all0)).trans K138 (allS (Or.inr z_b101) all0)).ext E143).ext E146).trans K149 (allS (Or.inr z_b143) all0)).trans K154 (allS (Or.inr z_b146) all0)).trans K160 (allS (Or.inr z_b146) all0)).ext E353).trans K356 (allS (Or.inr z_b353) all0)).trans K360 all0)
      have Si373 : Sin s s T360.heap := Sin.mono Si0 (Nat.le_trans (Nat.le_trans (Nat.le_trans (Nat.le_trans (Nat.le_trans (Nat.le_trans (Nat.le_trans (Nat.le_trans (Nat.le_trans (Nat.le_trans (Nat.le_trans (Nat.le_trans (Nat.le_trans (Nat.le_trans (Nat.le_trans (Nat.le_trans (Nat.le_trans (Nat.le_trans (Nat.le_trans (Nat.le_refl _) E101.1) K103.1) K106.1) K110.1) K114.1) K118.1) K122.1) K126.1) K130.1) K134.1) K138.1) E143.1) E146.1) K149.1) K154.1) K160.1) E353.1) K356.1) K360.1)
      exact Go.retNH C X365 (by rw [e365]; exact Si373) (EWc hw) (by rw [e365]; exact Hr364) rfl at_242 (by simp) (by rw [e365]; exact ⟨(by rw [ek1, ek2, i0_0, i0_1, i0_2, i0_3, i0_4, i0_5, i0_6, i0_7, i1_0, i1_1, i1_2, i1_3, i1_4, i1_5, i1_6, i1_7, if_pos rfl]; rfl), N365, K372⟩) (by decide) (by decide)
    · rw [ez]
      have ne374 : b101 ≠ b143 := Nat.ne_of_lt (Nat.lt_of_lt_of_le A101.lt (Nat.le_trans (Nat.le_trans (Nat.le_trans (Nat.le_trans (Nat.le_trans (Nat.le_trans (Nat.le_trans (Nat.le_trans (Nat.le_trans (Nat.le_trans (Nat.le_trans (Nat.le_refl _) K103.1) K106.1) K110.1) K114.1) K118.1) K122.1) K126.1) K130.1) K134.1) K138.1) (Nat.le_of_eq g143.symm)))
      have ne375 : b101 ≠ b146 := Nat.ne_of_lt (Nat.lt_of_lt_of_le A101.lt (Nat.le_trans (Nat.le_trans (Nat.le_trans (Nat.le_trans (Nat.le_trans (Nat.le_trans (Nat.le_trans (Nat.le_trans (Nat.le_trans (Nat.le_trans (Nat.le_trans (Nat.le_trans (Nat.le_refl _) K103.1) K106.1) K110.1) K114.1) K118.1) K122.1) K126.1) K130.1) K134.1) K138.1) E143.1) (Nat.le_of_eq g146.symm)))
      have c376 : AL Z T160.heap b101 k101 .byte (by8 Y9) := (AL.keep (AL.keep (AL.keep (AL.ext E146 (AL.ext E143 aY9)) K149 (ninS ne374 nin0)) K154 (ninS ne375 nin0)) K160 (ninS ne375 nin0))
      have aB : AL Z T160.heap b101 k101 .byte (by8 [(bt p1 (32 : Int32)), (bt p1 (24 : Int32)), (bt p1 (16 : Int32)), (bt p1 (8 : Int32)), (bt p1 (0 : Int32)), (bt p2 (32 : Int32)), (bt p2 (24 : Int32)), (bt p2 (16 : Int32))]) := by have q := c376; rw [hY9, hY8, hY7, hY6, hY5, hY4, hY3, hY2, hY1, hY0, en] at q; exact q
      refine Go.iload (pc' := 187) C X160 at_185 rfl rfl ?_
      refine Go.ifYes (pc' := 197) C X160 at_187 ((if0 _ _).trans (feq (x := (8 : Int32)) (y := (0 : Int32)) (by decide)).2) (by decide) (by decide) ?_
      refine Go.iload (pc' := 199) C X160 at_197 rfl rfl ?_
      refine Go.iconst (z := (5 : Int32)) (pc' := 200) C X160 at_199 rfl rfl ?_
      refine Go.icmpYes (pc' := 217) C X160 at_200 (tlt (x := (5 : Int32)) (y := (8 : Int32)) (by decide)).2.2.1 (by decide) (by decide) ?_
      have O380 : Ext Z.heap T160.heap := (Ext.keep O161 K160 (allS n_b146 all0))
      refine Go.newO (pc' := 220) C X160 (tw hw 127 rfl) (tw hw 34 rfl) (tw hw 33 rfl) rfl (by decide) (by decide) at_217 rfl ?_
      intro T379 h379 b379 X379 e379 g379 E379 A379 D379
      have Hr381 := CHr.trans Hr162 (CHr.ext E379 Hr162.1)
      have n_b379 : Z.heap.size ≤ b379 := Nat.le_trans O380.1 (Nat.le_of_eq g379.symm)
      have z_b379 : h0.size ≤ b379 := Nat.le_trans (Nat.le_trans (Nat.le_trans (Nat.le_trans (Nat.le_trans (Nat.le_trans (Nat.le_trans (Nat.le_trans (Nat.le_trans (Nat.le_trans (Nat.le_trans (Nat.le_trans (Nat.le_trans (Nat.le_trans (Nat.le_trans (Nat.le_trans (Nat.le_trans (Nat.le_refl _) E101.1) K103.1) K106.1) K110.1) K114.1) K118.1) K122.1) K126.1) K130.1) K134.1) K138.1) E143.1) E146.1) K149.1) K154.1) K160.1) (Nat.le_of_eq g379.symm)
      have s_b379 : Safe Z consts_1 s.vm h379 b379 := Safe.ext E379 Hr162.1 (Safe.new (Nat.le_of_eq g379.symm))
      have F379_value : Fld Z h379 b379 "java/lang/String" "value" "[B" .null := D379 (Or.inr (tw hw 35 rfl)) (ty := (.array .byte)) (by decide)
      have F379_coder : Fld Z h379 b379 "java/lang/String" "coder" "B" (.int (0 : Int32)) := D379 (Or.inr (tw hw 36 rfl)) (ty := .byte) (by decide)
      refine Go.dup (pc' := 221) C X379 at_220 rfl rfl ?_
      refine Go.aload (pc' := 223) C X379 at_221 rfl rfl rfl ?_
      have c383 : AL Z h379 b146 k146 .char [(.int (chI K1 (0 : Int32) k1)), (.int (chI K1 (1 : Int32) k1)), (.int (chI K1 (2 : Int32) k1)), (.int (chI K1 (3 : Int32) k1)), (.int (chI K1 (4 : Int32) k1)), (.int (chI K1 (5 : Int32) k1)), (.int (chI K1 (6 : Int32) k1)), (.int (chI K1 (7 : Int32) k1)), (.int (chI K2 (0 : Int32) k2)), (.int (chI K2 (1 : Int32) k2)), (.int (chI K2 (2 : Int32) k2)), (.int (chI K2 (3 : Int32) k2)), (.int (chI K2 (4 : Int32) k2)), (.int (chI K2 (5 : Int32) k2)), (.int (chI K2 (6 : Int32) k2)), (.int (chI K2 (7 : Int32) k2))] := (AL.ext E379 P160_0)
      have O384 : Ext Z.heap h379 := (Ext.trans O380 E379)
      refine Go.callI (y := mN17) (a := b379) (pc' := 226) C X379 rfl (tw hw 128 rfl) (tw hw 129 rfl) (by decide) (rm_sI1 l Z a0 hw b379 b146 k146 ([(chI K1 (0 : Int32) k1), (chI K1 (1 : Int32) k1), (chI K1 (2 : Int32) k1), (chI K1 (3 : Int32) k1), (chI K1 (4 : Int32) k1), (chI K1 (5 : Int32) k1), (chI K1 (6 : Int32) k1), (chI K1 (7 : Int32) k1), (chI K2 (0 : Int32) k2), (chI K2 (1 : Int32) k2), (chI K2 (2 : Int32) k2), (chI K2 (3 : Int32) k2), (chI K2 (4 : Int32) k2), (chI K2 (5 : Int32) k2), (chI K2 (6 : Int32) k2), (chI K2 (7 : Int32) k2)]) cP h379 O384 A379 F379_value F379_coder (show AL Z h379 b146 k146 .char (ch16 [(chI K1 (0 : Int32) k1), (chI K1 (1 : Int32) k1), (chI K1 (2 : Int32) k1), (chI K1 (3 : Int32) k1), (chI K1 (4 : Int32) k1), (chI K1 (5 : Int32) k1), (chI K1 (6 : Int32) k1), (chI K1 (7 : Int32) k1), (chI K2 (0 : Int32) k2), (chI K2 (1 : Int32) k2), (chI K2 (2 : Int32) k2), (chI K2 (3 : Int32) k2), (chI K2 (4 : Int32) k2), (chI K2 (5 : Int32) k2), (chI K2 (6 : Int32) k2), (chI K2 (7 : Int32) k2)]) from c383) SC (by intro x hx; simp only [List.mem_cons, List.not_mem_nil, or_false] at hx; rcases hx with rfl | rfl | rfl | rfl | rfl | rfl | rfl | rfl | rfl | rfl | rfl | rfl | rfl | rfl | rfl | rfl <;> exact chI_r _ _ _) (show (16 : Nat) < 2 ^ 31 from by decide) (show (16 : Nat) ≤ 16 from by decide) (show ¬ (16 : Nat).toInt32 = (0 : Int32) from by decide) hP n_b379) (tw hw 130 rfl) (tw hw 33 rfl) e379 (argsL := [(.ref b146)]) (rest := [(.ref b379)]) (W := 1) rfl rfl pd_23 rfl (Nat.le_of_eq rfl) rfl (by decide) (by decide) (by decide) (by decide) rfl at_223 rfl ?_
      intro T382 v382 L382 X382 q382
      obtain ⟨v_382, kv_382, rfl, N382q, K382, B382_0, P382_0, P382_1, P382_2⟩ := q382
      have N382 := Fr.app N160 N382q
      have Hr385 := CHr.trans Hr381 (CHr.keep K382 (allS s_b379 all0) Hr381.1)
      have n_v_382 : Z.heap.size ≤ v_382 := Nat.le_trans O384.1 B382_0
      have z_v_382 : h0.size ≤ v_382 := Nat.le_trans (Nat.le_trans (Nat.le_trans (Nat.le_trans (Nat.le_trans (Nat.le_trans (Nat.le_trans (Nat.le_trans (Nat.le_trans (Nat.le_trans (Nat.le_trans (Nat.le_trans (Nat.le_trans (Nat.le_trans (Nat.le_trans (Nat.le_trans (Nat.le_trans (Nat.le_trans (Nat.le_refl _) E101.1) K103.1) K106.1) K110.1) K114.1) K118.1) K122.1) K126.1) K130.1) K134.1) K138.1) E143.1) E146.1) K149.1) K154.1) K160.1) E379.1) B382_0
      have s_v_382 : Safe Z consts_1 s.vm T382.heap v_382 := Safe.keep K382 (allS s_b379 all0) Hr381.1 (Safe.new B382_0)
      refine Go.astore (Ls' := #[.val (.long p1), .second, .val (.long p2), .second, .val (.int p3), .val (.int (8 : Int32)), .val (.ref b101), .val (.int k1), .val (.int k2), .val (.long K1), .second, .val (.long K2), .second, .val (.ref b143), .val (.ref b146), .val (.ref b379), .unset]) (pc' := 228) C X382 at_226 rfl rfl rfl ?_
      refine Go.aload (pc' := 230) C X382 at_228 rfl rfl rfl ?_
      have ne387 : b101 ≠ b379 := Nat.ne_of_lt (Nat.lt_of_lt_of_le A101.lt (Nat.le_trans (Nat.le_trans (Nat.le_trans (Nat.le_trans (Nat.le_trans (Nat.le_trans (Nat.le_trans (Nat.le_trans (Nat.le_trans (Nat.le_trans (Nat.le_trans (Nat.le_trans (Nat.le_trans (Nat.le_trans (Nat.le_trans (Nat.le_trans (Nat.le_refl _) K103.1) K106.1) K110.1) K114.1) K118.1) K122.1) K126.1) K130.1) K134.1) K138.1) E143.1) E146.1) K149.1) K154.1) K160.1) (Nat.le_of_eq g379.symm)))
      have c388 : AL Z T382.heap b101 k101 .byte (by8 [(bt p1 (32 : Int32)), (bt p1 (24 : Int32)), (bt p1 (16 : Int32)), (bt p1 (8 : Int32)), (bt p1 (0 : Int32)), (bt p2 (32 : Int32)), (bt p2 (24 : Int32)), (bt p2 (16 : Int32))]) := (AL.keep (AL.ext E379 aB) K382 (ninS ne387 nin0))
      have O389 : Ext Z.heap T382.heap := (Ext.keep O384 K382 (allS n_b379 all0))
      refine Go.callS (y := mN0) (pc' := 233) C X382 (tw hw 39 rfl) (tw hw 40 rfl) (by decide) (rm_b32_8 l Z a0 hw b101 k101 cP ta tk tb ((bt p1 (32 : Int32))) ((bt p1 (24 : Int32))) ((bt p1 (16 : Int32))) ((bt p1 (8 : Int32))) ((bt p1 (0 : Int32))) ((bt p2 (32 : Int32))) ((bt p2 (24 : Int32))) ((bt p2 (16 : Int32))) T382.heap O389 c388 SC ST AT hP htb) (tw hw 42 rfl) (tw hw 41 rfl) rfl (argsL := [(.ref b101)]) (rest := []) (W := 0) rfl rfl pd_21 rfl (Nat.le_of_eq rfl) rfl (by decide) (by decide) (by decide) (by decide) at_230 rfl ?_
      intro T386 v386 L386 X386 q386
      obtain ⟨s1_386, v_386, kv_386, c0_386, c1_386, c2_386, c3_386, c4_386, c5_386, c6_386, c7_386, c8_386, c9_386, c10_386, c11_386, c12_386, rfl, N386q, K386, B386_0, B386_1, P386_0, P386_1, P386_2, P386_3, p386_0, p386_1, p386_2, p386_3, p386_4, p386_5, p386_6, p386_7, p386_8, p386_9, p386_10, p386_11, p386_12⟩ := q386
      have N386 := Fr.app N382 N386q
      have Hr390 := CHr.trans Hr385 (CHr.keep K386 all0 Hr385.1)
      have n_s1_386 : Z.heap.size ≤ s1_386 := Nat.le_trans O389.1 B386_0
      have z_s1_386 : h0.size ≤ s1_386 := Nat.le_trans (Nat.le_trans (Nat.le_trans (Nat.le_trans (Nat.le_trans (Nat.le_trans (Nat.le_trans (Nat.le_trans (Nat.le_trans (Nat.le_trans (Nat.le_trans (Nat.le_trans (Nat.le_trans (Nat.le_trans (Nat.le_trans (Nat.le_trans (Nat.le_trans (Nat.le_trans (Nat.le_trans (Nat.le_refl _) E101.1) K103.1) K106.1) K110.1) K114.1) K118.1) K122.1) K126.1) K130.1) K134.1) K138.1) E143.1) E146.1) K149.1) K154.1) K160.1) E379.1) K382.1) B386_0
      have s_s1_386 : Safe Z consts_1 s.vm T386.heap s1_386 := Safe.keep K386 all0 Hr385.1 (Safe.new B386_0)
      have n_v_386 : Z.heap.size ≤ v_386 := Nat.le_trans O389.1 B386_1
      have z_v_386 : h0.size ≤ v_386 := Nat.le_trans (Nat.le_trans (Nat.le_trans (Nat.le_trans (Nat.le_trans (Nat.le_trans (Nat.le_trans (Nat.le_trans (Nat.le_trans (Nat.le_trans (Nat.le_trans (Nat.le_trans (Nat.le_trans (Nat.le_trans (Nat.le_trans (Nat.le_trans (Nat.le_trans (Nat.le_trans (Nat.le_trans (Nat.le_refl _) E101.1) K103.1) K106.1) K110.1) K114.1) K118.1) K122.1) K126.1) K130.1) K134.1) K138.1) E143.1) E146.1) K149.1) K154.1) K160.1) E379.1) K382.1) B386_1
      have s_v_386 : Safe Z consts_1 s.vm T386.heap v_386 := Safe.keep K386 all0 Hr385.1 (Safe.new B386_1)
      refine Go.astore (Ls' := #[.val (.long p1), .second, .val (.long p2), .second, .val (.int p3), .val (.int (8 : Int32)), .val (.ref b101), .val (.int k1), .val (.int k2), .val (.long K1), .second, .val (.long K2), .second, .val (.ref b143), .val (.ref b146), .val (.ref b379), .val (.ref s1_386)]) (pc' := 235) C X386 at_233 rfl rfl rfl ?_
      obtain ⟨i0_0, i0_1, i0_2, i0_3, i0_4, i0_5, i0_6, i0_7⟩ := grp5 _ hK1 p386_0 p386_1 p386_2 p386_3 p386_4 p386_5 p386_6 p386_7
      obtain ⟨i1_0, i1_1, i1_2, i1_3, i1_4, i1_5, i1_6, i1_7⟩ := grp3 _ hK2 p386_8 p386_9 p386_10 p386_11 p386_12
      refine Go.aload (pc' := 237) C X386 at_235 rfl rfl rfl ?_
      refine Go.aload (pc' := 239) C X386 at_237 rfl rfl rfl ?_
      have c392 : Exa Z T386.heap b379 "java/lang/String" := (Exa.keep (Exa.keep A379 K382) K386)
      have c393 : Fld Z T386.heap b379 "java/lang/String" "value" "[B" (.ref v_382) := (Fld.keep P382_0 K386 nin0)
      have c394 : Fld Z T386.heap b379 "java/lang/String" "coder" "B" (.int (0 : Int32)) := (Fld.keep P382_1 K386 nin0)
      have c395 : AL Z T386.heap v_382 kv_382 .byte (by8 [(chI K1 (0 : Int32) k1), (chI K1 (1 : Int32) k1), (chI K1 (2 : Int32) k1), (chI K1 (3 : Int32) k1), (chI K1 (4 : Int32) k1), (chI K1 (5 : Int32) k1), (chI K1 (6 : Int32) k1), (chI K1 (7 : Int32) k1), (chI K2 (0 : Int32) k2), (chI K2 (1 : Int32) k2), (chI K2 (2 : Int32) k2), (chI K2 (3 : Int32) k2), (chI K2 (4 : Int32) k2), (chI K2 (5 : Int32) k2), (chI K2 (6 : Int32) k2), (chI K2 (7 : Int32) k2)]) := (AL.keep P382_2 K386 nin0)
      have ne396 : b379 ≠ s1_386 := Nat.ne_of_lt (Nat.lt_of_lt_of_le A379.lt (Nat.le_trans (Nat.le_trans (Nat.le_refl _) K382.1) B386_0))
      have O397 : Ext Z.heap T386.heap := (Ext.keep O389 K386 all0)
      refine Go.callV (y := mN19) (z := mN19) (a := b379) (pc' := 242) C X386 (tw hw 116 rfl) (tw hw 117 rfl) (notFace_at C.2.1 (tw hw 119 rfl)) (tw hw 119 rfl) (tw hw 118 rfl) c392 (by decide) (rm_eqS l Z a0 hw b379 s1_386 v_382 v_386 kv_382 kv_386 ([(chI K1 (0 : Int32) k1), (chI K1 (1 : Int32) k1), (chI K1 (2 : Int32) k1), (chI K1 (3 : Int32) k1), (chI K1 (4 : Int32) k1), (chI K1 (5 : Int32) k1), (chI K1 (6 : Int32) k1), (chI K1 (7 : Int32) k1), (chI K2 (0 : Int32) k2), (chI K2 (1 : Int32) k2), (chI K2 (2 : Int32) k2), (chI K2 (3 : Int32) k2), (chI K2 (4 : Int32) k2), (chI K2 (5 : Int32) k2), (chI K2 (6 : Int32) k2), (chI K2 (7 : Int32) k2)]) ([(alf c0_386), (alf c1_386), (alf c2_386), (alf c3_386), (alf c4_386), (alf c5_386), (alf c6_386), (alf c7_386), (alf c8_386), (alf c9_386), (alf c10_386), (alf c11_386), (alf c12_386), 61, 61, 61]) cP T386.heap O397 SC c392 c393 c394 c395 P386_0 P386_1 P386_2 P386_3 ne396 hP (show (16 : Nat) < 2 ^ 31 from by decide) (show (16 : Nat) < 2 ^ 31 from by decide)) (tw hw 120 rfl) (tw hw 33 rfl) rfl (argsL := [(.ref s1_386)]) (rest := []) (W := 0) rfl rfl pd_22 rfl (Nat.le_of_eq rfl) rfl (by decide) (by decide) (by decide) (by decide) at_239 rfl ?_
      intro T391 v391 L391 X391 q391
      obtain ⟨rfl, rfl, e391⟩ := q391
      have N391 := Fr.app N386 (Fr.nil _)
      have K398 : Keep h0 T386.heap [] := ((((((((((((((((((((Keep.refl h0 []).ext E101).trans K103 (allS (Or.inr z_b101) all0)).trans K106 (allS (Or.inr z_b101) all0)).trans K110 (allS (Or.inr z_b101) all0)).trans K114 (allS (Or.inr z_b101) all0)).trans K118 (allS (Or.inr z_b101) all0)).trans K122 (allS (Or.inr z_b101) all0)).trans K126 (allS (Or.inr z_b101) all0)).trans K130 (allS (Or.inr z_b101) all0)).trans K134 (allS (Or.inr z_b101) all0)).trans K138 (allS (Or.inr z_b101) all0)).ext E143).ext E146).trans K149 (allS (Or.inr z_b143) all0)).trans K154 (allS (Or.inr z_b146) all0)).trans K160 (allS (Or.inr z_b146) all0)).ext E379).trans K382 (allS (Or.inr z_b379) all0)).trans K386 all0)
      have Si399 : Sin s s T386.heap := Sin.mono Si0 (Nat.le_trans (Nat.le_trans (Nat.le_trans (Nat.le_trans (Nat.le_trans (Nat.le_trans (Nat.le_trans (Nat.le_trans (Nat.le_trans (Nat.le_trans (Nat.le_trans (Nat.le_trans (Nat.le_trans (Nat.le_trans (Nat.le_trans (Nat.le_trans (Nat.le_trans (Nat.le_trans (Nat.le_trans (Nat.le_refl _) E101.1) K103.1) K106.1) K110.1) K114.1) K118.1) K122.1) K126.1) K130.1) K134.1) K138.1) E143.1) E146.1) K149.1) K154.1) K160.1) E379.1) K382.1) K386.1)
      exact Go.retNH C X391 (by rw [e391]; exact Si399) (EWc hw) (by rw [e391]; exact Hr390) rfl at_242 (by simp) (by rw [e391]; exact ⟨(by rw [ek1, ek2, i0_0, i0_1, i0_2, i0_3, i0_4, i0_5, i0_6, i0_7, i1_0, i1_1, i1_2, i1_3, i1_4, i1_5, i1_6, i1_7, if_pos rfl]; rfl), N391, K398⟩) (by decide) (by decide)
    · rw [ez]
      have ne400 : b101 ≠ b143 := Nat.ne_of_lt (Nat.lt_of_lt_of_le A101.lt (Nat.le_trans (Nat.le_trans (Nat.le_trans (Nat.le_trans (Nat.le_trans (Nat.le_trans (Nat.le_trans (Nat.le_trans (Nat.le_trans (Nat.le_trans (Nat.le_trans (Nat.le_refl _) K103.1) K106.1) K110.1) K114.1) K118.1) K122.1) K126.1) K130.1) K134.1) K138.1) (Nat.le_of_eq g143.symm)))
      have ne401 : b101 ≠ b146 := Nat.ne_of_lt (Nat.lt_of_lt_of_le A101.lt (Nat.le_trans (Nat.le_trans (Nat.le_trans (Nat.le_trans (Nat.le_trans (Nat.le_trans (Nat.le_trans (Nat.le_trans (Nat.le_trans (Nat.le_trans (Nat.le_trans (Nat.le_trans (Nat.le_refl _) K103.1) K106.1) K110.1) K114.1) K118.1) K122.1) K126.1) K130.1) K134.1) K138.1) E143.1) (Nat.le_of_eq g146.symm)))
      have c402 : AL Z T160.heap b101 k101 .byte (by8 Y9) := (AL.keep (AL.keep (AL.keep (AL.ext E146 (AL.ext E143 aY9)) K149 (ninS ne400 nin0)) K154 (ninS ne401 nin0)) K160 (ninS ne401 nin0))
      have aB : AL Z T160.heap b101 k101 .byte (by8 [(bt p1 (32 : Int32)), (bt p1 (24 : Int32)), (bt p1 (16 : Int32)), (bt p1 (8 : Int32)), (bt p1 (0 : Int32)), (bt p2 (32 : Int32)), (bt p2 (24 : Int32)), (bt p2 (16 : Int32)), (bt p2 (8 : Int32))]) := by have q := c402; rw [hY9, hY8, hY7, hY6, hY5, hY4, hY3, hY2, hY1, hY0, en] at q; exact q
      refine Go.iload (pc' := 187) C X160 at_185 rfl rfl ?_
      refine Go.ifYes (pc' := 197) C X160 at_187 ((if0 _ _).trans (feq (x := (9 : Int32)) (y := (0 : Int32)) (by decide)).2) (by decide) (by decide) ?_
      refine Go.iload (pc' := 199) C X160 at_197 rfl rfl ?_
      refine Go.iconst (z := (5 : Int32)) (pc' := 200) C X160 at_199 rfl rfl ?_
      refine Go.icmpYes (pc' := 217) C X160 at_200 (tlt (x := (5 : Int32)) (y := (9 : Int32)) (by decide)).2.2.1 (by decide) (by decide) ?_
      have O406 : Ext Z.heap T160.heap := (Ext.keep O161 K160 (allS n_b146 all0))
      refine Go.newO (pc' := 220) C X160 (tw hw 127 rfl) (tw hw 34 rfl) (tw hw 33 rfl) rfl (by decide) (by decide) at_217 rfl ?_
      intro T405 h405 b405 X405 e405 g405 E405 A405 D405
      have Hr407 := CHr.trans Hr162 (CHr.ext E405 Hr162.1)
      have n_b405 : Z.heap.size ≤ b405 := Nat.le_trans O406.1 (Nat.le_of_eq g405.symm)
      have z_b405 : h0.size ≤ b405 := Nat.le_trans (Nat.le_trans (Nat.le_trans (Nat.le_trans (Nat.le_trans (Nat.le_trans (Nat.le_trans (Nat.le_trans (Nat.le_trans (Nat.le_trans (Nat.le_trans (Nat.le_trans (Nat.le_trans (Nat.le_trans (Nat.le_trans (Nat.le_trans (Nat.le_trans (Nat.le_refl _) E101.1) K103.1) K106.1) K110.1) K114.1) K118.1) K122.1) K126.1) K130.1) K134.1) K138.1) E143.1) E146.1) K149.1) K154.1) K160.1) (Nat.le_of_eq g405.symm)
      have s_b405 : Safe Z consts_1 s.vm h405 b405 := Safe.ext E405 Hr162.1 (Safe.new (Nat.le_of_eq g405.symm))
      have F405_value : Fld Z h405 b405 "java/lang/String" "value" "[B" .null := D405 (Or.inr (tw hw 35 rfl)) (ty := (.array .byte)) (by decide)
      have F405_coder : Fld Z h405 b405 "java/lang/String" "coder" "B" (.int (0 : Int32)) := D405 (Or.inr (tw hw 36 rfl)) (ty := .byte) (by decide)
      refine Go.dup (pc' := 221) C X405 at_220 rfl rfl ?_
      refine Go.aload (pc' := 223) C X405 at_221 rfl rfl rfl ?_
      have c409 : AL Z h405 b146 k146 .char [(.int (chI K1 (0 : Int32) k1)), (.int (chI K1 (1 : Int32) k1)), (.int (chI K1 (2 : Int32) k1)), (.int (chI K1 (3 : Int32) k1)), (.int (chI K1 (4 : Int32) k1)), (.int (chI K1 (5 : Int32) k1)), (.int (chI K1 (6 : Int32) k1)), (.int (chI K1 (7 : Int32) k1)), (.int (chI K2 (0 : Int32) k2)), (.int (chI K2 (1 : Int32) k2)), (.int (chI K2 (2 : Int32) k2)), (.int (chI K2 (3 : Int32) k2)), (.int (chI K2 (4 : Int32) k2)), (.int (chI K2 (5 : Int32) k2)), (.int (chI K2 (6 : Int32) k2)), (.int (chI K2 (7 : Int32) k2))] := (AL.ext E405 P160_0)
      have O410 : Ext Z.heap h405 := (Ext.trans O406 E405)
      refine Go.callI (y := mN17) (a := b405) (pc' := 226) C X405 rfl (tw hw 128 rfl) (tw hw 129 rfl) (by decide) (rm_sI1 l Z a0 hw b405 b146 k146 ([(chI K1 (0 : Int32) k1), (chI K1 (1 : Int32) k1), (chI K1 (2 : Int32) k1), (chI K1 (3 : Int32) k1), (chI K1 (4 : Int32) k1), (chI K1 (5 : Int32) k1), (chI K1 (6 : Int32) k1), (chI K1 (7 : Int32) k1), (chI K2 (0 : Int32) k2), (chI K2 (1 : Int32) k2), (chI K2 (2 : Int32) k2), (chI K2 (3 : Int32) k2), (chI K2 (4 : Int32) k2), (chI K2 (5 : Int32) k2), (chI K2 (6 : Int32) k2), (chI K2 (7 : Int32) k2)]) cP h405 O410 A405 F405_value F405_coder (show AL Z h405 b146 k146 .char (ch16 [(chI K1 (0 : Int32) k1), (chI K1 (1 : Int32) k1), (chI K1 (2 : Int32) k1), (chI K1 (3 : Int32) k1), (chI K1 (4 : Int32) k1), (chI K1 (5 : Int32) k1), (chI K1 (6 : Int32) k1), (chI K1 (7 : Int32) k1), (chI K2 (0 : Int32) k2), (chI K2 (1 : Int32) k2), (chI K2 (2 : Int32) k2), (chI K2 (3 : Int32) k2), (chI K2 (4 : Int32) k2), (chI K2 (5 : Int32) k2), (chI K2 (6 : Int32) k2), (chI K2 (7 : Int32) k2)]) from c409) SC (by intro x hx; simp only [List.mem_cons, List.not_mem_nil, or_false] at hx; rcases hx with rfl | rfl | rfl | rfl | rfl | rfl | rfl | rfl | rfl | rfl | rfl | rfl | rfl | rfl | rfl | rfl <;> exact chI_r _ _ _) (show (16 : Nat) < 2 ^ 31 from by decide) (show (16 : Nat) ≤ 16 from by decide) (show ¬ (16 : Nat).toInt32 = (0 : Int32) from by decide) hP n_b405) (tw hw 130 rfl) (tw hw 33 rfl) e405 (argsL := [(.ref b146)]) (rest := [(.ref b405)]) (W := 1) rfl rfl pd_23 rfl (Nat.le_of_eq rfl) rfl (by decide) (by decide) (by decide) (by decide) rfl at_223 rfl ?_
      intro T408 v408 L408 X408 q408
      obtain ⟨v_408, kv_408, rfl, N408q, K408, B408_0, P408_0, P408_1, P408_2⟩ := q408
      have N408 := Fr.app N160 N408q
      have Hr411 := CHr.trans Hr407 (CHr.keep K408 (allS s_b405 all0) Hr407.1)
      have n_v_408 : Z.heap.size ≤ v_408 := Nat.le_trans O410.1 B408_0
      have z_v_408 : h0.size ≤ v_408 := Nat.le_trans (Nat.le_trans (Nat.le_trans (Nat.le_trans (Nat.le_trans (Nat.le_trans (Nat.le_trans (Nat.le_trans (Nat.le_trans (Nat.le_trans (Nat.le_trans (Nat.le_trans (Nat.le_trans (Nat.le_trans (Nat.le_trans (Nat.le_trans (Nat.le_trans (Nat.le_trans (Nat.le_refl _) E101.1) K103.1) K106.1) K110.1) K114.1) K118.1) K122.1) K126.1) K130.1) K134.1) K138.1) E143.1) E146.1) K149.1) K154.1) K160.1) E405.1) B408_0
      have s_v_408 : Safe Z consts_1 s.vm T408.heap v_408 := Safe.keep K408 (allS s_b405 all0) Hr407.1 (Safe.new B408_0)
      refine Go.astore (Ls' := #[.val (.long p1), .second, .val (.long p2), .second, .val (.int p3), .val (.int (9 : Int32)), .val (.ref b101), .val (.int k1), .val (.int k2), .val (.long K1), .second, .val (.long K2), .second, .val (.ref b143), .val (.ref b146), .val (.ref b405), .unset]) (pc' := 228) C X408 at_226 rfl rfl rfl ?_
      refine Go.aload (pc' := 230) C X408 at_228 rfl rfl rfl ?_
      have ne413 : b101 ≠ b405 := Nat.ne_of_lt (Nat.lt_of_lt_of_le A101.lt (Nat.le_trans (Nat.le_trans (Nat.le_trans (Nat.le_trans (Nat.le_trans (Nat.le_trans (Nat.le_trans (Nat.le_trans (Nat.le_trans (Nat.le_trans (Nat.le_trans (Nat.le_trans (Nat.le_trans (Nat.le_trans (Nat.le_trans (Nat.le_trans (Nat.le_refl _) K103.1) K106.1) K110.1) K114.1) K118.1) K122.1) K126.1) K130.1) K134.1) K138.1) E143.1) E146.1) K149.1) K154.1) K160.1) (Nat.le_of_eq g405.symm)))
      have c414 : AL Z T408.heap b101 k101 .byte (by8 [(bt p1 (32 : Int32)), (bt p1 (24 : Int32)), (bt p1 (16 : Int32)), (bt p1 (8 : Int32)), (bt p1 (0 : Int32)), (bt p2 (32 : Int32)), (bt p2 (24 : Int32)), (bt p2 (16 : Int32)), (bt p2 (8 : Int32))]) := (AL.keep (AL.ext E405 aB) K408 (ninS ne413 nin0))
      have O415 : Ext Z.heap T408.heap := (Ext.keep O410 K408 (allS n_b405 all0))
      refine Go.callS (y := mN0) (pc' := 233) C X408 (tw hw 39 rfl) (tw hw 40 rfl) (by decide) (rm_b32_9 l Z a0 hw b101 k101 cP ta tk tb ((bt p1 (32 : Int32))) ((bt p1 (24 : Int32))) ((bt p1 (16 : Int32))) ((bt p1 (8 : Int32))) ((bt p1 (0 : Int32))) ((bt p2 (32 : Int32))) ((bt p2 (24 : Int32))) ((bt p2 (16 : Int32))) ((bt p2 (8 : Int32))) T408.heap O415 c414 SC ST AT hP htb) (tw hw 42 rfl) (tw hw 41 rfl) rfl (argsL := [(.ref b101)]) (rest := []) (W := 0) rfl rfl pd_21 rfl (Nat.le_of_eq rfl) rfl (by decide) (by decide) (by decide) (by decide) at_230 rfl ?_
      intro T412 v412 L412 X412 q412
      obtain ⟨s1_412, v_412, kv_412, c0_412, c1_412, c2_412, c3_412, c4_412, c5_412, c6_412, c7_412, c8_412, c9_412, c10_412, c11_412, c12_412, c13_412, c14_412, rfl, N412q, K412, B412_0, B412_1, P412_0, P412_1, P412_2, P412_3, p412_0, p412_1, p412_2, p412_3, p412_4, p412_5, p412_6, p412_7, p412_8, p412_9, p412_10, p412_11, p412_12, p412_13, p412_14⟩ := q412
      have N412 := Fr.app N408 N412q
      have Hr416 := CHr.trans Hr411 (CHr.keep K412 all0 Hr411.1)
      have n_s1_412 : Z.heap.size ≤ s1_412 := Nat.le_trans O415.1 B412_0
      have z_s1_412 : h0.size ≤ s1_412 := Nat.le_trans (Nat.le_trans (Nat.le_trans (Nat.le_trans (Nat.le_trans (Nat.le_trans (Nat.le_trans (Nat.le_trans (Nat.le_trans (Nat.le_trans (Nat.le_trans (Nat.le_trans (Nat.le_trans (Nat.le_trans (Nat.le_trans (Nat.le_trans (Nat.le_trans (Nat.le_trans (Nat.le_trans (Nat.le_refl _) E101.1) K103.1) K106.1) K110.1) K114.1) K118.1) K122.1) K126.1) K130.1) K134.1) K138.1) E143.1) E146.1) K149.1) K154.1) K160.1) E405.1) K408.1) B412_0
      have s_s1_412 : Safe Z consts_1 s.vm T412.heap s1_412 := Safe.keep K412 all0 Hr411.1 (Safe.new B412_0)
      have n_v_412 : Z.heap.size ≤ v_412 := Nat.le_trans O415.1 B412_1
      have z_v_412 : h0.size ≤ v_412 := Nat.le_trans (Nat.le_trans (Nat.le_trans (Nat.le_trans (Nat.le_trans (Nat.le_trans (Nat.le_trans (Nat.le_trans (Nat.le_trans (Nat.le_trans (Nat.le_trans (Nat.le_trans (Nat.le_trans (Nat.le_trans (Nat.le_trans (Nat.le_trans (Nat.le_trans (Nat.le_trans (Nat.le_trans (Nat.le_refl _) E101.1) K103.1) K106.1) K110.1) K114.1) K118.1) K122.1) K126.1) K130.1) K134.1) K138.1) E143.1) E146.1) K149.1) K154.1) K160.1) E405.1) K408.1) B412_1
      have s_v_412 : Safe Z consts_1 s.vm T412.heap v_412 := Safe.keep K412 all0 Hr411.1 (Safe.new B412_1)
      refine Go.astore (Ls' := #[.val (.long p1), .second, .val (.long p2), .second, .val (.int p3), .val (.int (9 : Int32)), .val (.ref b101), .val (.int k1), .val (.int k2), .val (.long K1), .second, .val (.long K2), .second, .val (.ref b143), .val (.ref b146), .val (.ref b405), .val (.ref s1_412)]) (pc' := 235) C X412 at_233 rfl rfl rfl ?_
      obtain ⟨i0_0, i0_1, i0_2, i0_3, i0_4, i0_5, i0_6, i0_7⟩ := grp5 _ hK1 p412_0 p412_1 p412_2 p412_3 p412_4 p412_5 p412_6 p412_7
      obtain ⟨i1_0, i1_1, i1_2, i1_3, i1_4, i1_5, i1_6, i1_7⟩ := grp4 _ hK2 p412_8 p412_9 p412_10 p412_11 p412_12 p412_13 p412_14
      refine Go.aload (pc' := 237) C X412 at_235 rfl rfl rfl ?_
      refine Go.aload (pc' := 239) C X412 at_237 rfl rfl rfl ?_
      have c418 : Exa Z T412.heap b405 "java/lang/String" := (Exa.keep (Exa.keep A405 K408) K412)
      have c419 : Fld Z T412.heap b405 "java/lang/String" "value" "[B" (.ref v_408) := (Fld.keep P408_0 K412 nin0)
      have c420 : Fld Z T412.heap b405 "java/lang/String" "coder" "B" (.int (0 : Int32)) := (Fld.keep P408_1 K412 nin0)
      have c421 : AL Z T412.heap v_408 kv_408 .byte (by8 [(chI K1 (0 : Int32) k1), (chI K1 (1 : Int32) k1), (chI K1 (2 : Int32) k1), (chI K1 (3 : Int32) k1), (chI K1 (4 : Int32) k1), (chI K1 (5 : Int32) k1), (chI K1 (6 : Int32) k1), (chI K1 (7 : Int32) k1), (chI K2 (0 : Int32) k2), (chI K2 (1 : Int32) k2), (chI K2 (2 : Int32) k2), (chI K2 (3 : Int32) k2), (chI K2 (4 : Int32) k2), (chI K2 (5 : Int32) k2), (chI K2 (6 : Int32) k2), (chI K2 (7 : Int32) k2)]) := (AL.keep P408_2 K412 nin0)
      have ne422 : b405 ≠ s1_412 := Nat.ne_of_lt (Nat.lt_of_lt_of_le A405.lt (Nat.le_trans (Nat.le_trans (Nat.le_refl _) K408.1) B412_0))
      have O423 : Ext Z.heap T412.heap := (Ext.keep O415 K412 all0)
      refine Go.callV (y := mN19) (z := mN19) (a := b405) (pc' := 242) C X412 (tw hw 116 rfl) (tw hw 117 rfl) (notFace_at C.2.1 (tw hw 119 rfl)) (tw hw 119 rfl) (tw hw 118 rfl) c418 (by decide) (rm_eqS l Z a0 hw b405 s1_412 v_408 v_412 kv_408 kv_412 ([(chI K1 (0 : Int32) k1), (chI K1 (1 : Int32) k1), (chI K1 (2 : Int32) k1), (chI K1 (3 : Int32) k1), (chI K1 (4 : Int32) k1), (chI K1 (5 : Int32) k1), (chI K1 (6 : Int32) k1), (chI K1 (7 : Int32) k1), (chI K2 (0 : Int32) k2), (chI K2 (1 : Int32) k2), (chI K2 (2 : Int32) k2), (chI K2 (3 : Int32) k2), (chI K2 (4 : Int32) k2), (chI K2 (5 : Int32) k2), (chI K2 (6 : Int32) k2), (chI K2 (7 : Int32) k2)]) ([(alf c0_412), (alf c1_412), (alf c2_412), (alf c3_412), (alf c4_412), (alf c5_412), (alf c6_412), (alf c7_412), (alf c8_412), (alf c9_412), (alf c10_412), (alf c11_412), (alf c12_412), (alf c13_412), (alf c14_412), 61]) cP T412.heap O423 SC c418 c419 c420 c421 P412_0 P412_1 P412_2 P412_3 ne422 hP (show (16 : Nat) < 2 ^ 31 from by decide) (show (16 : Nat) < 2 ^ 31 from by decide)) (tw hw 120 rfl) (tw hw 33 rfl) rfl (argsL := [(.ref s1_412)]) (rest := []) (W := 0) rfl rfl pd_22 rfl (Nat.le_of_eq rfl) rfl (by decide) (by decide) (by decide) (by decide) at_239 rfl ?_
      intro T417 v417 L417 X417 q417
      obtain ⟨rfl, rfl, e417⟩ := q417
      have N417 := Fr.app N412 (Fr.nil _)
      have K424 : Keep h0 T412.heap [] := ((((((((((((((((((((Keep.refl h0 []).ext E101).trans K103 (allS (Or.inr z_b101) all0)).trans K106 (allS (Or.inr z_b101) all0)).trans K110 (allS (Or.inr z_b101) all0)).trans K114 (allS (Or.inr z_b101) all0)).trans K118 (allS (Or.inr z_b101) all0)).trans K122 (allS (Or.inr z_b101) all0)).trans K126 (allS (Or.inr z_b101) all0)).trans K130 (allS (Or.inr z_b101) all0)).trans K134 (allS (Or.inr z_b101) all0)).trans K138 (allS (Or.inr z_b101) all0)).ext E143).ext E146).trans K149 (allS (Or.inr z_b143) all0)).trans K154 (allS (Or.inr z_b146) all0)).trans K160 (allS (Or.inr z_b146) all0)).ext E405).trans K408 (allS (Or.inr z_b405) all0)).trans K412 all0)
      have Si425 : Sin s s T412.heap := Sin.mono Si0 (Nat.le_trans (Nat.le_trans (Nat.le_trans (Nat.le_trans (Nat.le_trans (Nat.le_trans (Nat.le_trans (Nat.le_trans (Nat.le_trans (Nat.le_trans (Nat.le_trans (Nat.le_trans (Nat.le_trans (Nat.le_trans (Nat.le_trans (Nat.le_trans (Nat.le_trans (Nat.le_trans (Nat.le_trans (Nat.le_refl _) E101.1) K103.1) K106.1) K110.1) K114.1) K118.1) K122.1) K126.1) K130.1) K134.1) K138.1) E143.1) E146.1) K149.1) K154.1) K160.1) E405.1) K408.1) K412.1)
      exact Go.retNH C X417 (by rw [e417]; exact Si425) (EWc hw) (by rw [e417]; exact Hr416) rfl at_242 (by simp) (by rw [e417]; exact ⟨(by rw [ek1, ek2, i0_0, i0_1, i0_2, i0_3, i0_4, i0_5, i0_6, i0_7, i1_0, i1_1, i1_2, i1_3, i1_4, i1_5, i1_6, i1_7, if_pos rfl]; rfl), N417, K424⟩) (by decide) (by decide)
    · rw [ez]
      have ne426 : b101 ≠ b143 := Nat.ne_of_lt (Nat.lt_of_lt_of_le A101.lt (Nat.le_trans (Nat.le_trans (Nat.le_trans (Nat.le_trans (Nat.le_trans (Nat.le_trans (Nat.le_trans (Nat.le_trans (Nat.le_trans (Nat.le_trans (Nat.le_trans (Nat.le_refl _) K103.1) K106.1) K110.1) K114.1) K118.1) K122.1) K126.1) K130.1) K134.1) K138.1) (Nat.le_of_eq g143.symm)))
      have ne427 : b101 ≠ b146 := Nat.ne_of_lt (Nat.lt_of_lt_of_le A101.lt (Nat.le_trans (Nat.le_trans (Nat.le_trans (Nat.le_trans (Nat.le_trans (Nat.le_trans (Nat.le_trans (Nat.le_trans (Nat.le_trans (Nat.le_trans (Nat.le_trans (Nat.le_trans (Nat.le_refl _) K103.1) K106.1) K110.1) K114.1) K118.1) K122.1) K126.1) K130.1) K134.1) K138.1) E143.1) (Nat.le_of_eq g146.symm)))
      have c428 : AL Z T160.heap b101 k101 .byte (by8 Y9) := (AL.keep (AL.keep (AL.keep (AL.ext E146 (AL.ext E143 aY9)) K149 (ninS ne426 nin0)) K154 (ninS ne427 nin0)) K160 (ninS ne427 nin0))
      have aB : AL Z T160.heap b101 k101 .byte (by8 [(bt p1 (32 : Int32)), (bt p1 (24 : Int32)), (bt p1 (16 : Int32)), (bt p1 (8 : Int32)), (bt p1 (0 : Int32)), (bt p2 (32 : Int32)), (bt p2 (24 : Int32)), (bt p2 (16 : Int32)), (bt p2 (8 : Int32)), (bt p2 (0 : Int32))]) := by have q := c428; rw [hY9, hY8, hY7, hY6, hY5, hY4, hY3, hY2, hY1, hY0, en] at q; exact q
      refine Go.iload (pc' := 187) C X160 at_185 rfl rfl ?_
      refine Go.ifYes (pc' := 197) C X160 at_187 ((if0 _ _).trans (feq (x := (10 : Int32)) (y := (0 : Int32)) (by decide)).2) (by decide) (by decide) ?_
      refine Go.iload (pc' := 199) C X160 at_197 rfl rfl ?_
      refine Go.iconst (z := (5 : Int32)) (pc' := 200) C X160 at_199 rfl rfl ?_
      refine Go.icmpYes (pc' := 217) C X160 at_200 (tlt (x := (5 : Int32)) (y := (10 : Int32)) (by decide)).2.2.1 (by decide) (by decide) ?_
      have O432 : Ext Z.heap T160.heap := (Ext.keep O161 K160 (allS n_b146 all0))
      refine Go.newO (pc' := 220) C X160 (tw hw 127 rfl) (tw hw 34 rfl) (tw hw 33 rfl) rfl (by decide) (by decide) at_217 rfl ?_
      intro T431 h431 b431 X431 e431 g431 E431 A431 D431
      have Hr433 := CHr.trans Hr162 (CHr.ext E431 Hr162.1)
      have n_b431 : Z.heap.size ≤ b431 := Nat.le_trans O432.1 (Nat.le_of_eq g431.symm)
      have z_b431 : h0.size ≤ b431 := Nat.le_trans (Nat.le_trans (Nat.le_trans (Nat.le_trans (Nat.le_trans (Nat.le_trans (Nat.le_trans (Nat.le_trans (Nat.le_trans (Nat.le_trans (Nat.le_trans (Nat.le_trans (Nat.le_trans (Nat.le_trans (Nat.le_trans (Nat.le_trans (Nat.le_trans (Nat.le_refl _) E101.1) K103.1) K106.1) K110.1) K114.1) K118.1) K122.1) K126.1) K130.1) K134.1) K138.1) E143.1) E146.1) K149.1) K154.1) K160.1) (Nat.le_of_eq g431.symm)
      have s_b431 : Safe Z consts_1 s.vm h431 b431 := Safe.ext E431 Hr162.1 (Safe.new (Nat.le_of_eq g431.symm))
      have F431_value : Fld Z h431 b431 "java/lang/String" "value" "[B" .null := D431 (Or.inr (tw hw 35 rfl)) (ty := (.array .byte)) (by decide)
      have F431_coder : Fld Z h431 b431 "java/lang/String" "coder" "B" (.int (0 : Int32)) := D431 (Or.inr (tw hw 36 rfl)) (ty := .byte) (by decide)
      refine Go.dup (pc' := 221) C X431 at_220 rfl rfl ?_
      refine Go.aload (pc' := 223) C X431 at_221 rfl rfl rfl ?_
      have c435 : AL Z h431 b146 k146 .char [(.int (chI K1 (0 : Int32) k1)), (.int (chI K1 (1 : Int32) k1)), (.int (chI K1 (2 : Int32) k1)), (.int (chI K1 (3 : Int32) k1)), (.int (chI K1 (4 : Int32) k1)), (.int (chI K1 (5 : Int32) k1)), (.int (chI K1 (6 : Int32) k1)), (.int (chI K1 (7 : Int32) k1)), (.int (chI K2 (0 : Int32) k2)), (.int (chI K2 (1 : Int32) k2)), (.int (chI K2 (2 : Int32) k2)), (.int (chI K2 (3 : Int32) k2)), (.int (chI K2 (4 : Int32) k2)), (.int (chI K2 (5 : Int32) k2)), (.int (chI K2 (6 : Int32) k2)), (.int (chI K2 (7 : Int32) k2))] := (AL.ext E431 P160_0)
      have O436 : Ext Z.heap h431 := (Ext.trans O432 E431)
      refine Go.callI (y := mN17) (a := b431) (pc' := 226) C X431 rfl (tw hw 128 rfl) (tw hw 129 rfl) (by decide) (rm_sI1 l Z a0 hw b431 b146 k146 ([(chI K1 (0 : Int32) k1), (chI K1 (1 : Int32) k1), (chI K1 (2 : Int32) k1), (chI K1 (3 : Int32) k1), (chI K1 (4 : Int32) k1), (chI K1 (5 : Int32) k1), (chI K1 (6 : Int32) k1), (chI K1 (7 : Int32) k1), (chI K2 (0 : Int32) k2), (chI K2 (1 : Int32) k2), (chI K2 (2 : Int32) k2), (chI K2 (3 : Int32) k2), (chI K2 (4 : Int32) k2), (chI K2 (5 : Int32) k2), (chI K2 (6 : Int32) k2), (chI K2 (7 : Int32) k2)]) cP h431 O436 A431 F431_value F431_coder (show AL Z h431 b146 k146 .char (ch16 [(chI K1 (0 : Int32) k1), (chI K1 (1 : Int32) k1), (chI K1 (2 : Int32) k1), (chI K1 (3 : Int32) k1), (chI K1 (4 : Int32) k1), (chI K1 (5 : Int32) k1), (chI K1 (6 : Int32) k1), (chI K1 (7 : Int32) k1), (chI K2 (0 : Int32) k2), (chI K2 (1 : Int32) k2), (chI K2 (2 : Int32) k2), (chI K2 (3 : Int32) k2), (chI K2 (4 : Int32) k2), (chI K2 (5 : Int32) k2), (chI K2 (6 : Int32) k2), (chI K2 (7 : Int32) k2)]) from c435) SC (by intro x hx; simp only [List.mem_cons, List.not_mem_nil, or_false] at hx; rcases hx with rfl | rfl | rfl | rfl | rfl | rfl | rfl | rfl | rfl | rfl | rfl | rfl | rfl | rfl | rfl | rfl <;> exact chI_r _ _ _) (show (16 : Nat) < 2 ^ 31 from by decide) (show (16 : Nat) ≤ 16 from by decide) (show ¬ (16 : Nat).toInt32 = (0 : Int32) from by decide) hP n_b431) (tw hw 130 rfl) (tw hw 33 rfl) e431 (argsL := [(.ref b146)]) (rest := [(.ref b431)]) (W := 1) rfl rfl pd_23 rfl (Nat.le_of_eq rfl) rfl (by decide) (by decide) (by decide) (by decide) rfl at_223 rfl ?_
      intro T434 v434 L434 X434 q434
      obtain ⟨v_434, kv_434, rfl, N434q, K434, B434_0, P434_0, P434_1, P434_2⟩ := q434
      have N434 := Fr.app N160 N434q
      have Hr437 := CHr.trans Hr433 (CHr.keep K434 (allS s_b431 all0) Hr433.1)
      have n_v_434 : Z.heap.size ≤ v_434 := Nat.le_trans O436.1 B434_0
      have z_v_434 : h0.size ≤ v_434 := Nat.le_trans (Nat.le_trans (Nat.le_trans (Nat.le_trans (Nat.le_trans (Nat.le_trans (Nat.le_trans (Nat.le_trans (Nat.le_trans (Nat.le_trans (Nat.le_trans (Nat.le_trans (Nat.le_trans (Nat.le_trans (Nat.le_trans (Nat.le_trans (Nat.le_trans (Nat.le_trans (Nat.le_refl _) E101.1) K103.1) K106.1) K110.1) K114.1) K118.1) K122.1) K126.1) K130.1) K134.1) K138.1) E143.1) E146.1) K149.1) K154.1) K160.1) E431.1) B434_0
      have s_v_434 : Safe Z consts_1 s.vm T434.heap v_434 := Safe.keep K434 (allS s_b431 all0) Hr433.1 (Safe.new B434_0)
      refine Go.astore (Ls' := #[.val (.long p1), .second, .val (.long p2), .second, .val (.int p3), .val (.int (10 : Int32)), .val (.ref b101), .val (.int k1), .val (.int k2), .val (.long K1), .second, .val (.long K2), .second, .val (.ref b143), .val (.ref b146), .val (.ref b431), .unset]) (pc' := 228) C X434 at_226 rfl rfl rfl ?_
      refine Go.aload (pc' := 230) C X434 at_228 rfl rfl rfl ?_
      have ne439 : b101 ≠ b431 := Nat.ne_of_lt (Nat.lt_of_lt_of_le A101.lt (Nat.le_trans (Nat.le_trans (Nat.le_trans (Nat.le_trans (Nat.le_trans (Nat.le_trans (Nat.le_trans (Nat.le_trans (Nat.le_trans (Nat.le_trans (Nat.le_trans (Nat.le_trans (Nat.le_trans (Nat.le_trans (Nat.le_trans (Nat.le_trans (Nat.le_refl _) K103.1) K106.1) K110.1) K114.1) K118.1) K122.1) K126.1) K130.1) K134.1) K138.1) E143.1) E146.1) K149.1) K154.1) K160.1) (Nat.le_of_eq g431.symm)))
      have c440 : AL Z T434.heap b101 k101 .byte (by8 [(bt p1 (32 : Int32)), (bt p1 (24 : Int32)), (bt p1 (16 : Int32)), (bt p1 (8 : Int32)), (bt p1 (0 : Int32)), (bt p2 (32 : Int32)), (bt p2 (24 : Int32)), (bt p2 (16 : Int32)), (bt p2 (8 : Int32)), (bt p2 (0 : Int32))]) := (AL.keep (AL.ext E431 aB) K434 (ninS ne439 nin0))
      have O441 : Ext Z.heap T434.heap := (Ext.keep O436 K434 (allS n_b431 all0))
      refine Go.callS (y := mN0) (pc' := 233) C X434 (tw hw 39 rfl) (tw hw 40 rfl) (by decide) (rm_b32_10 l Z a0 hw b101 k101 cP ta tk tb ((bt p1 (32 : Int32))) ((bt p1 (24 : Int32))) ((bt p1 (16 : Int32))) ((bt p1 (8 : Int32))) ((bt p1 (0 : Int32))) ((bt p2 (32 : Int32))) ((bt p2 (24 : Int32))) ((bt p2 (16 : Int32))) ((bt p2 (8 : Int32))) ((bt p2 (0 : Int32))) T434.heap O441 c440 SC ST AT hP htb) (tw hw 42 rfl) (tw hw 41 rfl) rfl (argsL := [(.ref b101)]) (rest := []) (W := 0) rfl rfl pd_21 rfl (Nat.le_of_eq rfl) rfl (by decide) (by decide) (by decide) (by decide) at_230 rfl ?_
      intro T438 v438 L438 X438 q438
      obtain ⟨s1_438, v_438, kv_438, c0_438, c1_438, c2_438, c3_438, c4_438, c5_438, c6_438, c7_438, c8_438, c9_438, c10_438, c11_438, c12_438, c13_438, c14_438, c15_438, rfl, N438q, K438, B438_0, B438_1, P438_0, P438_1, P438_2, P438_3, p438_0, p438_1, p438_2, p438_3, p438_4, p438_5, p438_6, p438_7, p438_8, p438_9, p438_10, p438_11, p438_12, p438_13, p438_14, p438_15⟩ := q438
      have N438 := Fr.app N434 N438q
      have Hr442 := CHr.trans Hr437 (CHr.keep K438 all0 Hr437.1)
      have n_s1_438 : Z.heap.size ≤ s1_438 := Nat.le_trans O441.1 B438_0
      have z_s1_438 : h0.size ≤ s1_438 := Nat.le_trans (Nat.le_trans (Nat.le_trans (Nat.le_trans (Nat.le_trans (Nat.le_trans (Nat.le_trans (Nat.le_trans (Nat.le_trans (Nat.le_trans (Nat.le_trans (Nat.le_trans (Nat.le_trans (Nat.le_trans (Nat.le_trans (Nat.le_trans (Nat.le_trans (Nat.le_trans (Nat.le_trans (Nat.le_refl _) E101.1) K103.1) K106.1) K110.1) K114.1) K118.1) K122.1) K126.1) K130.1) K134.1) K138.1) E143.1) E146.1) K149.1) K154.1) K160.1) E431.1) K434.1) B438_0
      have s_s1_438 : Safe Z consts_1 s.vm T438.heap s1_438 := Safe.keep K438 all0 Hr437.1 (Safe.new B438_0)
      have n_v_438 : Z.heap.size ≤ v_438 := Nat.le_trans O441.1 B438_1
      have z_v_438 : h0.size ≤ v_438 := Nat.le_trans (Nat.le_trans (Nat.le_trans (Nat.le_trans (Nat.le_trans (Nat.le_trans (Nat.le_trans (Nat.le_trans (Nat.le_trans (Nat.le_trans (Nat.le_trans (Nat.le_trans (Nat.le_trans (Nat.le_trans (Nat.le_trans (Nat.le_trans (Nat.le_trans (Nat.le_trans (Nat.le_trans (Nat.le_refl _) E101.1) K103.1) K106.1) K110.1) K114.1) K118.1) K122.1) K126.1) K130.1) K134.1) K138.1) E143.1) E146.1) K149.1) K154.1) K160.1) E431.1) K434.1) B438_1
      have s_v_438 : Safe Z consts_1 s.vm T438.heap v_438 := Safe.keep K438 all0 Hr437.1 (Safe.new B438_1)
      refine Go.astore (Ls' := #[.val (.long p1), .second, .val (.long p2), .second, .val (.int p3), .val (.int (10 : Int32)), .val (.ref b101), .val (.int k1), .val (.int k2), .val (.long K1), .second, .val (.long K2), .second, .val (.ref b143), .val (.ref b146), .val (.ref b431), .val (.ref s1_438)]) (pc' := 235) C X438 at_233 rfl rfl rfl ?_
      obtain ⟨i0_0, i0_1, i0_2, i0_3, i0_4, i0_5, i0_6, i0_7⟩ := grp5 _ hK1 p438_0 p438_1 p438_2 p438_3 p438_4 p438_5 p438_6 p438_7
      obtain ⟨i1_0, i1_1, i1_2, i1_3, i1_4, i1_5, i1_6, i1_7⟩ := grp5 _ hK2 p438_8 p438_9 p438_10 p438_11 p438_12 p438_13 p438_14 p438_15
      refine Go.aload (pc' := 237) C X438 at_235 rfl rfl rfl ?_
      refine Go.aload (pc' := 239) C X438 at_237 rfl rfl rfl ?_
      have c444 : Exa Z T438.heap b431 "java/lang/String" := (Exa.keep (Exa.keep A431 K434) K438)
      have c445 : Fld Z T438.heap b431 "java/lang/String" "value" "[B" (.ref v_434) := (Fld.keep P434_0 K438 nin0)
      have c446 : Fld Z T438.heap b431 "java/lang/String" "coder" "B" (.int (0 : Int32)) := (Fld.keep P434_1 K438 nin0)
      have c447 : AL Z T438.heap v_434 kv_434 .byte (by8 [(chI K1 (0 : Int32) k1), (chI K1 (1 : Int32) k1), (chI K1 (2 : Int32) k1), (chI K1 (3 : Int32) k1), (chI K1 (4 : Int32) k1), (chI K1 (5 : Int32) k1), (chI K1 (6 : Int32) k1), (chI K1 (7 : Int32) k1), (chI K2 (0 : Int32) k2), (chI K2 (1 : Int32) k2), (chI K2 (2 : Int32) k2), (chI K2 (3 : Int32) k2), (chI K2 (4 : Int32) k2), (chI K2 (5 : Int32) k2), (chI K2 (6 : Int32) k2), (chI K2 (7 : Int32) k2)]) := (AL.keep P434_2 K438 nin0)
      have ne448 : b431 ≠ s1_438 := Nat.ne_of_lt (Nat.lt_of_lt_of_le A431.lt (Nat.le_trans (Nat.le_trans (Nat.le_refl _) K434.1) B438_0))
      have O449 : Ext Z.heap T438.heap := (Ext.keep O441 K438 all0)
      refine Go.callV (y := mN19) (z := mN19) (a := b431) (pc' := 242) C X438 (tw hw 116 rfl) (tw hw 117 rfl) (notFace_at C.2.1 (tw hw 119 rfl)) (tw hw 119 rfl) (tw hw 118 rfl) c444 (by decide) (rm_eqS l Z a0 hw b431 s1_438 v_434 v_438 kv_434 kv_438 ([(chI K1 (0 : Int32) k1), (chI K1 (1 : Int32) k1), (chI K1 (2 : Int32) k1), (chI K1 (3 : Int32) k1), (chI K1 (4 : Int32) k1), (chI K1 (5 : Int32) k1), (chI K1 (6 : Int32) k1), (chI K1 (7 : Int32) k1), (chI K2 (0 : Int32) k2), (chI K2 (1 : Int32) k2), (chI K2 (2 : Int32) k2), (chI K2 (3 : Int32) k2), (chI K2 (4 : Int32) k2), (chI K2 (5 : Int32) k2), (chI K2 (6 : Int32) k2), (chI K2 (7 : Int32) k2)]) ([(alf c0_438), (alf c1_438), (alf c2_438), (alf c3_438), (alf c4_438), (alf c5_438), (alf c6_438), (alf c7_438), (alf c8_438), (alf c9_438), (alf c10_438), (alf c11_438), (alf c12_438), (alf c13_438), (alf c14_438), (alf c15_438)]) cP T438.heap O449 SC c444 c445 c446 c447 P438_0 P438_1 P438_2 P438_3 ne448 hP (show (16 : Nat) < 2 ^ 31 from by decide) (show (16 : Nat) < 2 ^ 31 from by decide)) (tw hw 120 rfl) (tw hw 33 rfl) rfl (argsL := [(.ref s1_438)]) (rest := []) (W := 0) rfl rfl pd_22 rfl (Nat.le_of_eq rfl) rfl (by decide) (by decide) (by decide) (by decide) at_239 rfl ?_
      intro T443 v443 L443 X443 q443
      obtain ⟨rfl, rfl, e443⟩ := q443
      have N443 := Fr.app N438 (Fr.nil _)
      have K450 : Keep h0 T438.heap [] := ((((((((((((((((((((Keep.refl h0 []).ext E101).trans K103 (allS (Or.inr z_b101) all0)).trans K106 (allS (Or.inr z_b101) all0)).trans K110 (allS (Or.inr z_b101) all0)).trans K114 (allS (Or.inr z_b101) all0)).trans K118 (allS (Or.inr z_b101) all0)).trans K122 (allS (Or.inr z_b101) all0)).trans K126 (allS (Or.inr z_b101) all0)).trans K130 (allS (Or.inr z_b101) all0)).trans K134 (allS (Or.inr z_b101) all0)).trans K138 (allS (Or.inr z_b101) all0)).ext E143).ext E146).trans K149 (allS (Or.inr z_b143) all0)).trans K154 (allS (Or.inr z_b146) all0)).trans K160 (allS (Or.inr z_b146) all0)).ext E431).trans K434 (allS (Or.inr z_b431) all0)).trans K438 all0)
      have Si451 : Sin s s T438.heap := Sin.mono Si0 (Nat.le_trans (Nat.le_trans (Nat.le_trans (Nat.le_trans (Nat.le_trans (Nat.le_trans (Nat.le_trans (Nat.le_trans (Nat.le_trans (Nat.le_trans (Nat.le_trans (Nat.le_trans (Nat.le_trans (Nat.le_trans (Nat.le_trans (Nat.le_trans (Nat.le_trans (Nat.le_trans (Nat.le_trans (Nat.le_refl _) E101.1) K103.1) K106.1) K110.1) K114.1) K118.1) K122.1) K126.1) K130.1) K134.1) K138.1) E143.1) E146.1) K149.1) K154.1) K160.1) E431.1) K434.1) K438.1)
      exact Go.retNH C X443 (by rw [e443]; exact Si451) (EWc hw) (by rw [e443]; exact Hr442) rfl at_242 (by simp) (by rw [e443]; exact ⟨(by rw [ek1, ek2, i0_0, i0_1, i0_2, i0_3, i0_4, i0_5, i0_6, i0_7, i1_0, i1_1, i1_2, i1_3, i1_4, i1_5, i1_6, i1_7, if_pos rfl]; rfl), N443, K450⟩) (by decide) (by decide)
  rcases own_l10 hnn with hn0 | hn1 | hn2 | hn3 | hn4 | hn5 | hn6 | hn7 | hn8 | hn9 | hn10
  · rw [show nn.toInt32 = (0 : Int32) from by rw [hn0]; rfl]
    refine Go.iload (pc' := 102) C X138 at_100 rfl rfl ?_
    refine Go.iconst (z := (5 : Int32)) (pc' := 103) C X138 at_102 rfl rfl ?_
    have O453 : Ext Z.heap T138.heap := (Ext.keep O139 K138 (allS n_b101 all0))
    refine Go.callS (y := mN14) (pc' := 106) C X138 (tw hw 6 rfl) (tw hw 7 rfl) (by decide) (rm_min1 l Z a0 hw ((0 : Int32)) ((5 : Int32)) T138.heap O453 (by decide)) (tw hw 9 rfl) (tw hw 8 rfl) rfl (argsL := [(.int (0 : Int32)), (.int (5 : Int32))]) (rest := []) (W := 0) rfl rfl pd_24 rfl (Nat.le_of_eq rfl) rfl (by decide) (by decide) (by decide) (by decide) at_103 rfl ?_
    intro T452 v452 L452 X452 q452
    obtain ⟨rfl, rfl, e452⟩ := q452
    have N452 := Fr.app N138 (Fr.nil _)
    refine Go.istore (Ls' := #[.val (.long p1), .second, .val (.long p2), .second, .val (.int p3), .val (.int (0 : Int32)), .val (.ref b101), .val (.int (0 : Int32)), .unset, .unset, .unset, .unset, .unset, .unset, .unset, .unset, .unset]) (pc' := 108) C X452 at_106 rfl rfl ?_
    refine Go.iload (pc' := 110) C X452 at_108 rfl rfl ?_
    refine Go.iconst (z := (5 : Int32)) (pc' := 111) C X452 at_110 rfl rfl ?_
    refine Go.isub (pc' := 112) C X452 at_111 rfl ?_
    rw [show ((0 : Int32) - (5 : Int32)) = (-5 : Int32) from by decide]
    refine Go.iconst (z := (0 : Int32)) (pc' := 113) C X452 at_112 rfl rfl ?_
    refine Go.callS (y := mN13) (pc' := 116) C X452 (tw hw 10 rfl) (tw hw 11 rfl) (by decide) (rm_max2 l Z a0 hw ((-5 : Int32)) ((0 : Int32)) T138.heap O453 (by decide)) (tw hw 12 rfl) (tw hw 8 rfl) e452 (argsL := [(.int (-5 : Int32)), (.int (0 : Int32))]) (rest := []) (W := 0) rfl rfl pd_24 rfl (Nat.le_of_eq rfl) rfl (by decide) (by decide) (by decide) (by decide) at_113 rfl ?_
    intro T454 v454 L454 X454 q454
    obtain ⟨rfl, rfl, e454⟩ := q454
    have N454 := Fr.app N452 (Fr.nil _)
    refine Go.istore (Ls' := #[.val (.long p1), .second, .val (.long p2), .second, .val (.int p3), .val (.int (0 : Int32)), .val (.ref b101), .val (.int (0 : Int32)), .val (.int (0 : Int32)), .unset, .unset, .unset, .unset, .unset, .unset, .unset, .unset]) (pc' := 118) C X454 at_116 rfl rfl ?_
    refine Go.lloadN (pc' := 119) C X454 at_118 rfl rfl ?_
    refine Go.ldc2J (pc' := 122) C X454 at_119 (tw hw 13 rfl) rfl ?_
    refine Go.land (pc' := 123) C X454 at_122 rfl ?_
    refine Go.iload (pc' := 125) C X454 at_123 rfl rfl ?_
    refine Go.callS (y := mN4) (pc' := 128) C X454 (tw hw 14 rfl) (tw hw 15 rfl) (by decide) (rm_kp0 l Z a0 hw ((p1 &&& (1099511627775 : Int64))) T138.heap O453 (msk _)) (tw hw 16 rfl) (tw hw 4 rfl) e454 (argsL := [(.long (p1 &&& (1099511627775 : Int64))), (.int (0 : Int32))]) (rest := []) (W := 0) rfl rfl pd_25 rfl (Nat.le_of_eq rfl) rfl (by decide) (by decide) (by decide) (by decide) at_125 rfl ?_
    intro T455 v455 L455 X455 q455
    obtain ⟨K_455, rfl, rfl, e455, p455_0⟩ := q455
    have N455 := Fr.app N454 (Fr.nil _)
    refine Go.lstore (Ls' := #[.val (.long p1), .second, .val (.long p2), .second, .val (.int p3), .val (.int (0 : Int32)), .val (.ref b101), .val (.int (0 : Int32)), .val (.int (0 : Int32)), .val (.long K_455), .second, .unset, .unset, .unset, .unset, .unset, .unset]) (pc' := 130) C X455 at_128 rfl rfl ?_
    refine Go.lloadN (pc' := 131) C X455 at_130 rfl rfl ?_
    refine Go.ldc2J (pc' := 134) C X455 at_131 (tw hw 13 rfl) rfl ?_
    refine Go.land (pc' := 135) C X455 at_134 rfl ?_
    refine Go.iload (pc' := 137) C X455 at_135 rfl rfl ?_
    refine Go.callS (y := mN4) (pc' := 140) C X455 (tw hw 14 rfl) (tw hw 15 rfl) (by decide) (rm_kp0 l Z a0 hw ((p2 &&& (1099511627775 : Int64))) T138.heap O453 (msk _)) (tw hw 16 rfl) (tw hw 4 rfl) e455 (argsL := [(.long (p2 &&& (1099511627775 : Int64))), (.int (0 : Int32))]) (rest := []) (W := 0) rfl rfl pd_25 rfl (Nat.le_of_eq rfl) rfl (by decide) (by decide) (by decide) (by decide) at_137 rfl ?_
    intro T456 v456 L456 X456 q456
    obtain ⟨K_456, rfl, rfl, e456, p456_0⟩ := q456
    have N456 := Fr.app N455 (Fr.nil _)
    refine Go.lstore (Ls' := #[.val (.long p1), .second, .val (.long p2), .second, .val (.int p3), .val (.int (0 : Int32)), .val (.ref b101), .val (.int (0 : Int32)), .val (.int (0 : Int32)), .val (.long K_455), .second, .val (.long K_456), .second, .unset, .unset, .unset, .unset]) (pc' := 142) C X456 at_140 rfl rfl ?_
    exact K142 _ _ X456 e456 N456 (0 : Int32) (0 : Int32) (0 : Int32) K_455 K_456 (Or.inl ⟨hn0, rfl, rfl, rfl, p455_0, p456_0⟩)
  · rw [show nn.toInt32 = (1 : Int32) from by rw [hn1]; rfl]
    refine Go.iload (pc' := 102) C X138 at_100 rfl rfl ?_
    refine Go.iconst (z := (5 : Int32)) (pc' := 103) C X138 at_102 rfl rfl ?_
    have O458 : Ext Z.heap T138.heap := (Ext.keep O139 K138 (allS n_b101 all0))
    refine Go.callS (y := mN14) (pc' := 106) C X138 (tw hw 6 rfl) (tw hw 7 rfl) (by decide) (rm_min1 l Z a0 hw ((1 : Int32)) ((5 : Int32)) T138.heap O458 (by decide)) (tw hw 9 rfl) (tw hw 8 rfl) rfl (argsL := [(.int (1 : Int32)), (.int (5 : Int32))]) (rest := []) (W := 0) rfl rfl pd_24 rfl (Nat.le_of_eq rfl) rfl (by decide) (by decide) (by decide) (by decide) at_103 rfl ?_
    intro T457 v457 L457 X457 q457
    obtain ⟨rfl, rfl, e457⟩ := q457
    have N457 := Fr.app N138 (Fr.nil _)
    refine Go.istore (Ls' := #[.val (.long p1), .second, .val (.long p2), .second, .val (.int p3), .val (.int (1 : Int32)), .val (.ref b101), .val (.int (1 : Int32)), .unset, .unset, .unset, .unset, .unset, .unset, .unset, .unset, .unset]) (pc' := 108) C X457 at_106 rfl rfl ?_
    refine Go.iload (pc' := 110) C X457 at_108 rfl rfl ?_
    refine Go.iconst (z := (5 : Int32)) (pc' := 111) C X457 at_110 rfl rfl ?_
    refine Go.isub (pc' := 112) C X457 at_111 rfl ?_
    rw [show ((1 : Int32) - (5 : Int32)) = (-4 : Int32) from by decide]
    refine Go.iconst (z := (0 : Int32)) (pc' := 113) C X457 at_112 rfl rfl ?_
    refine Go.callS (y := mN13) (pc' := 116) C X457 (tw hw 10 rfl) (tw hw 11 rfl) (by decide) (rm_max2 l Z a0 hw ((-4 : Int32)) ((0 : Int32)) T138.heap O458 (by decide)) (tw hw 12 rfl) (tw hw 8 rfl) e457 (argsL := [(.int (-4 : Int32)), (.int (0 : Int32))]) (rest := []) (W := 0) rfl rfl pd_24 rfl (Nat.le_of_eq rfl) rfl (by decide) (by decide) (by decide) (by decide) at_113 rfl ?_
    intro T459 v459 L459 X459 q459
    obtain ⟨rfl, rfl, e459⟩ := q459
    have N459 := Fr.app N457 (Fr.nil _)
    refine Go.istore (Ls' := #[.val (.long p1), .second, .val (.long p2), .second, .val (.int p3), .val (.int (1 : Int32)), .val (.ref b101), .val (.int (1 : Int32)), .val (.int (0 : Int32)), .unset, .unset, .unset, .unset, .unset, .unset, .unset, .unset]) (pc' := 118) C X459 at_116 rfl rfl ?_
    refine Go.lloadN (pc' := 119) C X459 at_118 rfl rfl ?_
    refine Go.ldc2J (pc' := 122) C X459 at_119 (tw hw 13 rfl) rfl ?_
    refine Go.land (pc' := 123) C X459 at_122 rfl ?_
    refine Go.iload (pc' := 125) C X459 at_123 rfl rfl ?_
    refine Go.callS (y := mN4) (pc' := 128) C X459 (tw hw 14 rfl) (tw hw 15 rfl) (by decide) (rm_kp1 l Z a0 hw ((p1 &&& (1099511627775 : Int64))) T138.heap O458 (msk _)) (tw hw 16 rfl) (tw hw 4 rfl) e459 (argsL := [(.long (p1 &&& (1099511627775 : Int64))), (.int (1 : Int32))]) (rest := []) (W := 0) rfl rfl pd_25 rfl (Nat.le_of_eq rfl) rfl (by decide) (by decide) (by decide) (by decide) at_125 rfl ?_
    intro T460 v460 L460 X460 q460
    obtain ⟨K_460, rfl, rfl, e460, p460_0⟩ := q460
    have N460 := Fr.app N459 (Fr.nil _)
    refine Go.lstore (Ls' := #[.val (.long p1), .second, .val (.long p2), .second, .val (.int p3), .val (.int (1 : Int32)), .val (.ref b101), .val (.int (1 : Int32)), .val (.int (0 : Int32)), .val (.long K_460), .second, .unset, .unset, .unset, .unset, .unset, .unset]) (pc' := 130) C X460 at_128 rfl rfl ?_
    refine Go.lloadN (pc' := 131) C X460 at_130 rfl rfl ?_
    refine Go.ldc2J (pc' := 134) C X460 at_131 (tw hw 13 rfl) rfl ?_
    refine Go.land (pc' := 135) C X460 at_134 rfl ?_
    refine Go.iload (pc' := 137) C X460 at_135 rfl rfl ?_
    refine Go.callS (y := mN4) (pc' := 140) C X460 (tw hw 14 rfl) (tw hw 15 rfl) (by decide) (rm_kp0 l Z a0 hw ((p2 &&& (1099511627775 : Int64))) T138.heap O458 (msk _)) (tw hw 16 rfl) (tw hw 4 rfl) e460 (argsL := [(.long (p2 &&& (1099511627775 : Int64))), (.int (0 : Int32))]) (rest := []) (W := 0) rfl rfl pd_25 rfl (Nat.le_of_eq rfl) rfl (by decide) (by decide) (by decide) (by decide) at_137 rfl ?_
    intro T461 v461 L461 X461 q461
    obtain ⟨K_461, rfl, rfl, e461, p461_0⟩ := q461
    have N461 := Fr.app N460 (Fr.nil _)
    refine Go.lstore (Ls' := #[.val (.long p1), .second, .val (.long p2), .second, .val (.int p3), .val (.int (1 : Int32)), .val (.ref b101), .val (.int (1 : Int32)), .val (.int (0 : Int32)), .val (.long K_460), .second, .val (.long K_461), .second, .unset, .unset, .unset, .unset]) (pc' := 142) C X461 at_140 rfl rfl ?_
    exact K142 _ _ X461 e461 N461 (1 : Int32) (1 : Int32) (0 : Int32) K_460 K_461 (Or.inr (Or.inl ⟨hn1, rfl, rfl, rfl, p460_0, p461_0⟩))
  · rw [show nn.toInt32 = (2 : Int32) from by rw [hn2]; rfl]
    refine Go.iload (pc' := 102) C X138 at_100 rfl rfl ?_
    refine Go.iconst (z := (5 : Int32)) (pc' := 103) C X138 at_102 rfl rfl ?_
    have O463 : Ext Z.heap T138.heap := (Ext.keep O139 K138 (allS n_b101 all0))
    refine Go.callS (y := mN14) (pc' := 106) C X138 (tw hw 6 rfl) (tw hw 7 rfl) (by decide) (rm_min1 l Z a0 hw ((2 : Int32)) ((5 : Int32)) T138.heap O463 (by decide)) (tw hw 9 rfl) (tw hw 8 rfl) rfl (argsL := [(.int (2 : Int32)), (.int (5 : Int32))]) (rest := []) (W := 0) rfl rfl pd_24 rfl (Nat.le_of_eq rfl) rfl (by decide) (by decide) (by decide) (by decide) at_103 rfl ?_
    intro T462 v462 L462 X462 q462
    obtain ⟨rfl, rfl, e462⟩ := q462
    have N462 := Fr.app N138 (Fr.nil _)
    refine Go.istore (Ls' := #[.val (.long p1), .second, .val (.long p2), .second, .val (.int p3), .val (.int (2 : Int32)), .val (.ref b101), .val (.int (2 : Int32)), .unset, .unset, .unset, .unset, .unset, .unset, .unset, .unset, .unset]) (pc' := 108) C X462 at_106 rfl rfl ?_
    refine Go.iload (pc' := 110) C X462 at_108 rfl rfl ?_
    refine Go.iconst (z := (5 : Int32)) (pc' := 111) C X462 at_110 rfl rfl ?_
    refine Go.isub (pc' := 112) C X462 at_111 rfl ?_
    rw [show ((2 : Int32) - (5 : Int32)) = (-3 : Int32) from by decide]
    refine Go.iconst (z := (0 : Int32)) (pc' := 113) C X462 at_112 rfl rfl ?_
    refine Go.callS (y := mN13) (pc' := 116) C X462 (tw hw 10 rfl) (tw hw 11 rfl) (by decide) (rm_max2 l Z a0 hw ((-3 : Int32)) ((0 : Int32)) T138.heap O463 (by decide)) (tw hw 12 rfl) (tw hw 8 rfl) e462 (argsL := [(.int (-3 : Int32)), (.int (0 : Int32))]) (rest := []) (W := 0) rfl rfl pd_24 rfl (Nat.le_of_eq rfl) rfl (by decide) (by decide) (by decide) (by decide) at_113 rfl ?_
    intro T464 v464 L464 X464 q464
    obtain ⟨rfl, rfl, e464⟩ := q464
    have N464 := Fr.app N462 (Fr.nil _)
    refine Go.istore (Ls' := #[.val (.long p1), .second, .val (.long p2), .second, .val (.int p3), .val (.int (2 : Int32)), .val (.ref b101), .val (.int (2 : Int32)), .val (.int (0 : Int32)), .unset, .unset, .unset, .unset, .unset, .unset, .unset, .unset]) (pc' := 118) C X464 at_116 rfl rfl ?_
    refine Go.lloadN (pc' := 119) C X464 at_118 rfl rfl ?_
    refine Go.ldc2J (pc' := 122) C X464 at_119 (tw hw 13 rfl) rfl ?_
    refine Go.land (pc' := 123) C X464 at_122 rfl ?_
    refine Go.iload (pc' := 125) C X464 at_123 rfl rfl ?_
    refine Go.callS (y := mN4) (pc' := 128) C X464 (tw hw 14 rfl) (tw hw 15 rfl) (by decide) (rm_kp2 l Z a0 hw ((p1 &&& (1099511627775 : Int64))) T138.heap O463 (msk _)) (tw hw 16 rfl) (tw hw 4 rfl) e464 (argsL := [(.long (p1 &&& (1099511627775 : Int64))), (.int (2 : Int32))]) (rest := []) (W := 0) rfl rfl pd_25 rfl (Nat.le_of_eq rfl) rfl (by decide) (by decide) (by decide) (by decide) at_125 rfl ?_
    intro T465 v465 L465 X465 q465
    obtain ⟨K_465, rfl, rfl, e465, p465_0⟩ := q465
    have N465 := Fr.app N464 (Fr.nil _)
    refine Go.lstore (Ls' := #[.val (.long p1), .second, .val (.long p2), .second, .val (.int p3), .val (.int (2 : Int32)), .val (.ref b101), .val (.int (2 : Int32)), .val (.int (0 : Int32)), .val (.long K_465), .second, .unset, .unset, .unset, .unset, .unset, .unset]) (pc' := 130) C X465 at_128 rfl rfl ?_
    refine Go.lloadN (pc' := 131) C X465 at_130 rfl rfl ?_
    refine Go.ldc2J (pc' := 134) C X465 at_131 (tw hw 13 rfl) rfl ?_
    refine Go.land (pc' := 135) C X465 at_134 rfl ?_
    refine Go.iload (pc' := 137) C X465 at_135 rfl rfl ?_
    refine Go.callS (y := mN4) (pc' := 140) C X465 (tw hw 14 rfl) (tw hw 15 rfl) (by decide) (rm_kp0 l Z a0 hw ((p2 &&& (1099511627775 : Int64))) T138.heap O463 (msk _)) (tw hw 16 rfl) (tw hw 4 rfl) e465 (argsL := [(.long (p2 &&& (1099511627775 : Int64))), (.int (0 : Int32))]) (rest := []) (W := 0) rfl rfl pd_25 rfl (Nat.le_of_eq rfl) rfl (by decide) (by decide) (by decide) (by decide) at_137 rfl ?_
    intro T466 v466 L466 X466 q466
    obtain ⟨K_466, rfl, rfl, e466, p466_0⟩ := q466
    have N466 := Fr.app N465 (Fr.nil _)
    refine Go.lstore (Ls' := #[.val (.long p1), .second, .val (.long p2), .second, .val (.int p3), .val (.int (2 : Int32)), .val (.ref b101), .val (.int (2 : Int32)), .val (.int (0 : Int32)), .val (.long K_465), .second, .val (.long K_466), .second, .unset, .unset, .unset, .unset]) (pc' := 142) C X466 at_140 rfl rfl ?_
    exact K142 _ _ X466 e466 N466 (2 : Int32) (2 : Int32) (0 : Int32) K_465 K_466 (Or.inr (Or.inr (Or.inl ⟨hn2, rfl, rfl, rfl, p465_0, p466_0⟩)))
  · rw [show nn.toInt32 = (3 : Int32) from by rw [hn3]; rfl]
    refine Go.iload (pc' := 102) C X138 at_100 rfl rfl ?_
    refine Go.iconst (z := (5 : Int32)) (pc' := 103) C X138 at_102 rfl rfl ?_
    have O468 : Ext Z.heap T138.heap := (Ext.keep O139 K138 (allS n_b101 all0))
    refine Go.callS (y := mN14) (pc' := 106) C X138 (tw hw 6 rfl) (tw hw 7 rfl) (by decide) (rm_min1 l Z a0 hw ((3 : Int32)) ((5 : Int32)) T138.heap O468 (by decide)) (tw hw 9 rfl) (tw hw 8 rfl) rfl (argsL := [(.int (3 : Int32)), (.int (5 : Int32))]) (rest := []) (W := 0) rfl rfl pd_24 rfl (Nat.le_of_eq rfl) rfl (by decide) (by decide) (by decide) (by decide) at_103 rfl ?_
    intro T467 v467 L467 X467 q467
    obtain ⟨rfl, rfl, e467⟩ := q467
    have N467 := Fr.app N138 (Fr.nil _)
    refine Go.istore (Ls' := #[.val (.long p1), .second, .val (.long p2), .second, .val (.int p3), .val (.int (3 : Int32)), .val (.ref b101), .val (.int (3 : Int32)), .unset, .unset, .unset, .unset, .unset, .unset, .unset, .unset, .unset]) (pc' := 108) C X467 at_106 rfl rfl ?_
    refine Go.iload (pc' := 110) C X467 at_108 rfl rfl ?_
    refine Go.iconst (z := (5 : Int32)) (pc' := 111) C X467 at_110 rfl rfl ?_
    refine Go.isub (pc' := 112) C X467 at_111 rfl ?_
    rw [show ((3 : Int32) - (5 : Int32)) = (-2 : Int32) from by decide]
    refine Go.iconst (z := (0 : Int32)) (pc' := 113) C X467 at_112 rfl rfl ?_
    refine Go.callS (y := mN13) (pc' := 116) C X467 (tw hw 10 rfl) (tw hw 11 rfl) (by decide) (rm_max2 l Z a0 hw ((-2 : Int32)) ((0 : Int32)) T138.heap O468 (by decide)) (tw hw 12 rfl) (tw hw 8 rfl) e467 (argsL := [(.int (-2 : Int32)), (.int (0 : Int32))]) (rest := []) (W := 0) rfl rfl pd_24 rfl (Nat.le_of_eq rfl) rfl (by decide) (by decide) (by decide) (by decide) at_113 rfl ?_
    intro T469 v469 L469 X469 q469
    obtain ⟨rfl, rfl, e469⟩ := q469
    have N469 := Fr.app N467 (Fr.nil _)
    refine Go.istore (Ls' := #[.val (.long p1), .second, .val (.long p2), .second, .val (.int p3), .val (.int (3 : Int32)), .val (.ref b101), .val (.int (3 : Int32)), .val (.int (0 : Int32)), .unset, .unset, .unset, .unset, .unset, .unset, .unset, .unset]) (pc' := 118) C X469 at_116 rfl rfl ?_
    refine Go.lloadN (pc' := 119) C X469 at_118 rfl rfl ?_
    refine Go.ldc2J (pc' := 122) C X469 at_119 (tw hw 13 rfl) rfl ?_
    refine Go.land (pc' := 123) C X469 at_122 rfl ?_
    refine Go.iload (pc' := 125) C X469 at_123 rfl rfl ?_
    refine Go.callS (y := mN4) (pc' := 128) C X469 (tw hw 14 rfl) (tw hw 15 rfl) (by decide) (rm_kp3 l Z a0 hw ((p1 &&& (1099511627775 : Int64))) T138.heap O468 (msk _)) (tw hw 16 rfl) (tw hw 4 rfl) e469 (argsL := [(.long (p1 &&& (1099511627775 : Int64))), (.int (3 : Int32))]) (rest := []) (W := 0) rfl rfl pd_25 rfl (Nat.le_of_eq rfl) rfl (by decide) (by decide) (by decide) (by decide) at_125 rfl ?_
    intro T470 v470 L470 X470 q470
    obtain ⟨K_470, rfl, rfl, e470, p470_0⟩ := q470
    have N470 := Fr.app N469 (Fr.nil _)
    refine Go.lstore (Ls' := #[.val (.long p1), .second, .val (.long p2), .second, .val (.int p3), .val (.int (3 : Int32)), .val (.ref b101), .val (.int (3 : Int32)), .val (.int (0 : Int32)), .val (.long K_470), .second, .unset, .unset, .unset, .unset, .unset, .unset]) (pc' := 130) C X470 at_128 rfl rfl ?_
    refine Go.lloadN (pc' := 131) C X470 at_130 rfl rfl ?_
    refine Go.ldc2J (pc' := 134) C X470 at_131 (tw hw 13 rfl) rfl ?_
    refine Go.land (pc' := 135) C X470 at_134 rfl ?_
    refine Go.iload (pc' := 137) C X470 at_135 rfl rfl ?_
    refine Go.callS (y := mN4) (pc' := 140) C X470 (tw hw 14 rfl) (tw hw 15 rfl) (by decide) (rm_kp0 l Z a0 hw ((p2 &&& (1099511627775 : Int64))) T138.heap O468 (msk _)) (tw hw 16 rfl) (tw hw 4 rfl) e470 (argsL := [(.long (p2 &&& (1099511627775 : Int64))), (.int (0 : Int32))]) (rest := []) (W := 0) rfl rfl pd_25 rfl (Nat.le_of_eq rfl) rfl (by decide) (by decide) (by decide) (by decide) at_137 rfl ?_
    intro T471 v471 L471 X471 q471
    obtain ⟨K_471, rfl, rfl, e471, p471_0⟩ := q471
    have N471 := Fr.app N470 (Fr.nil _)
    refine Go.lstore (Ls' := #[.val (.long p1), .second, .val (.long p2), .second, .val (.int p3), .val (.int (3 : Int32)), .val (.ref b101), .val (.int (3 : Int32)), .val (.int (0 : Int32)), .val (.long K_470), .second, .val (.long K_471), .second, .unset, .unset, .unset, .unset]) (pc' := 142) C X471 at_140 rfl rfl ?_
    exact K142 _ _ X471 e471 N471 (3 : Int32) (3 : Int32) (0 : Int32) K_470 K_471 (Or.inr (Or.inr (Or.inr (Or.inl ⟨hn3, rfl, rfl, rfl, p470_0, p471_0⟩))))
  · rw [show nn.toInt32 = (4 : Int32) from by rw [hn4]; rfl]
    refine Go.iload (pc' := 102) C X138 at_100 rfl rfl ?_
    refine Go.iconst (z := (5 : Int32)) (pc' := 103) C X138 at_102 rfl rfl ?_
    have O473 : Ext Z.heap T138.heap := (Ext.keep O139 K138 (allS n_b101 all0))
    refine Go.callS (y := mN14) (pc' := 106) C X138 (tw hw 6 rfl) (tw hw 7 rfl) (by decide) (rm_min1 l Z a0 hw ((4 : Int32)) ((5 : Int32)) T138.heap O473 (by decide)) (tw hw 9 rfl) (tw hw 8 rfl) rfl (argsL := [(.int (4 : Int32)), (.int (5 : Int32))]) (rest := []) (W := 0) rfl rfl pd_24 rfl (Nat.le_of_eq rfl) rfl (by decide) (by decide) (by decide) (by decide) at_103 rfl ?_
    intro T472 v472 L472 X472 q472
    obtain ⟨rfl, rfl, e472⟩ := q472
    have N472 := Fr.app N138 (Fr.nil _)
    refine Go.istore (Ls' := #[.val (.long p1), .second, .val (.long p2), .second, .val (.int p3), .val (.int (4 : Int32)), .val (.ref b101), .val (.int (4 : Int32)), .unset, .unset, .unset, .unset, .unset, .unset, .unset, .unset, .unset]) (pc' := 108) C X472 at_106 rfl rfl ?_
    refine Go.iload (pc' := 110) C X472 at_108 rfl rfl ?_
    refine Go.iconst (z := (5 : Int32)) (pc' := 111) C X472 at_110 rfl rfl ?_
    refine Go.isub (pc' := 112) C X472 at_111 rfl ?_
    rw [show ((4 : Int32) - (5 : Int32)) = (-1 : Int32) from by decide]
    refine Go.iconst (z := (0 : Int32)) (pc' := 113) C X472 at_112 rfl rfl ?_
    refine Go.callS (y := mN13) (pc' := 116) C X472 (tw hw 10 rfl) (tw hw 11 rfl) (by decide) (rm_max2 l Z a0 hw ((-1 : Int32)) ((0 : Int32)) T138.heap O473 (by decide)) (tw hw 12 rfl) (tw hw 8 rfl) e472 (argsL := [(.int (-1 : Int32)), (.int (0 : Int32))]) (rest := []) (W := 0) rfl rfl pd_24 rfl (Nat.le_of_eq rfl) rfl (by decide) (by decide) (by decide) (by decide) at_113 rfl ?_
    intro T474 v474 L474 X474 q474
    obtain ⟨rfl, rfl, e474⟩ := q474
    have N474 := Fr.app N472 (Fr.nil _)
    refine Go.istore (Ls' := #[.val (.long p1), .second, .val (.long p2), .second, .val (.int p3), .val (.int (4 : Int32)), .val (.ref b101), .val (.int (4 : Int32)), .val (.int (0 : Int32)), .unset, .unset, .unset, .unset, .unset, .unset, .unset, .unset]) (pc' := 118) C X474 at_116 rfl rfl ?_
    refine Go.lloadN (pc' := 119) C X474 at_118 rfl rfl ?_
    refine Go.ldc2J (pc' := 122) C X474 at_119 (tw hw 13 rfl) rfl ?_
    refine Go.land (pc' := 123) C X474 at_122 rfl ?_
    refine Go.iload (pc' := 125) C X474 at_123 rfl rfl ?_
    refine Go.callS (y := mN4) (pc' := 128) C X474 (tw hw 14 rfl) (tw hw 15 rfl) (by decide) (rm_kp4 l Z a0 hw ((p1 &&& (1099511627775 : Int64))) T138.heap O473 (msk _)) (tw hw 16 rfl) (tw hw 4 rfl) e474 (argsL := [(.long (p1 &&& (1099511627775 : Int64))), (.int (4 : Int32))]) (rest := []) (W := 0) rfl rfl pd_25 rfl (Nat.le_of_eq rfl) rfl (by decide) (by decide) (by decide) (by decide) at_125 rfl ?_
    intro T475 v475 L475 X475 q475
    obtain ⟨K_475, rfl, rfl, e475, p475_0⟩ := q475
    have N475 := Fr.app N474 (Fr.nil _)
    refine Go.lstore (Ls' := #[.val (.long p1), .second, .val (.long p2), .second, .val (.int p3), .val (.int (4 : Int32)), .val (.ref b101), .val (.int (4 : Int32)), .val (.int (0 : Int32)), .val (.long K_475), .second, .unset, .unset, .unset, .unset, .unset, .unset]) (pc' := 130) C X475 at_128 rfl rfl ?_
    refine Go.lloadN (pc' := 131) C X475 at_130 rfl rfl ?_
    refine Go.ldc2J (pc' := 134) C X475 at_131 (tw hw 13 rfl) rfl ?_
    refine Go.land (pc' := 135) C X475 at_134 rfl ?_
    refine Go.iload (pc' := 137) C X475 at_135 rfl rfl ?_
    refine Go.callS (y := mN4) (pc' := 140) C X475 (tw hw 14 rfl) (tw hw 15 rfl) (by decide) (rm_kp0 l Z a0 hw ((p2 &&& (1099511627775 : Int64))) T138.heap O473 (msk _)) (tw hw 16 rfl) (tw hw 4 rfl) e475 (argsL := [(.long (p2 &&& (1099511627775 : Int64))), (.int (0 : Int32))]) (rest := []) (W := 0) rfl rfl pd_25 rfl (Nat.le_of_eq rfl) rfl (by decide) (by decide) (by decide) (by decide) at_137 rfl ?_
    intro T476 v476 L476 X476 q476
    obtain ⟨K_476, rfl, rfl, e476, p476_0⟩ := q476
    have N476 := Fr.app N475 (Fr.nil _)
    refine Go.lstore (Ls' := #[.val (.long p1), .second, .val (.long p2), .second, .val (.int p3), .val (.int (4 : Int32)), .val (.ref b101), .val (.int (4 : Int32)), .val (.int (0 : Int32)), .val (.long K_475), .second, .val (.long K_476), .second, .unset, .unset, .unset, .unset]) (pc' := 142) C X476 at_140 rfl rfl ?_
    exact K142 _ _ X476 e476 N476 (4 : Int32) (4 : Int32) (0 : Int32) K_475 K_476 (Or.inr (Or.inr (Or.inr (Or.inr (Or.inl ⟨hn4, rfl, rfl, rfl, p475_0, p476_0⟩)))))
  · rw [show nn.toInt32 = (5 : Int32) from by rw [hn5]; rfl]
    refine Go.iload (pc' := 102) C X138 at_100 rfl rfl ?_
    refine Go.iconst (z := (5 : Int32)) (pc' := 103) C X138 at_102 rfl rfl ?_
    have O478 : Ext Z.heap T138.heap := (Ext.keep O139 K138 (allS n_b101 all0))
    refine Go.callS (y := mN14) (pc' := 106) C X138 (tw hw 6 rfl) (tw hw 7 rfl) (by decide) (rm_min1 l Z a0 hw ((5 : Int32)) ((5 : Int32)) T138.heap O478 (by decide)) (tw hw 9 rfl) (tw hw 8 rfl) rfl (argsL := [(.int (5 : Int32)), (.int (5 : Int32))]) (rest := []) (W := 0) rfl rfl pd_24 rfl (Nat.le_of_eq rfl) rfl (by decide) (by decide) (by decide) (by decide) at_103 rfl ?_
    intro T477 v477 L477 X477 q477
    obtain ⟨rfl, rfl, e477⟩ := q477
    have N477 := Fr.app N138 (Fr.nil _)
    refine Go.istore (Ls' := #[.val (.long p1), .second, .val (.long p2), .second, .val (.int p3), .val (.int (5 : Int32)), .val (.ref b101), .val (.int (5 : Int32)), .unset, .unset, .unset, .unset, .unset, .unset, .unset, .unset, .unset]) (pc' := 108) C X477 at_106 rfl rfl ?_
    refine Go.iload (pc' := 110) C X477 at_108 rfl rfl ?_
    refine Go.iconst (z := (5 : Int32)) (pc' := 111) C X477 at_110 rfl rfl ?_
    refine Go.isub (pc' := 112) C X477 at_111 rfl ?_
    rw [show ((5 : Int32) - (5 : Int32)) = (0 : Int32) from by decide]
    refine Go.iconst (z := (0 : Int32)) (pc' := 113) C X477 at_112 rfl rfl ?_
    refine Go.callS (y := mN13) (pc' := 116) C X477 (tw hw 10 rfl) (tw hw 11 rfl) (by decide) (rm_max1 l Z a0 hw ((0 : Int32)) ((0 : Int32)) T138.heap O478 (by decide)) (tw hw 12 rfl) (tw hw 8 rfl) e477 (argsL := [(.int (0 : Int32)), (.int (0 : Int32))]) (rest := []) (W := 0) rfl rfl pd_24 rfl (Nat.le_of_eq rfl) rfl (by decide) (by decide) (by decide) (by decide) at_113 rfl ?_
    intro T479 v479 L479 X479 q479
    obtain ⟨rfl, rfl, e479⟩ := q479
    have N479 := Fr.app N477 (Fr.nil _)
    refine Go.istore (Ls' := #[.val (.long p1), .second, .val (.long p2), .second, .val (.int p3), .val (.int (5 : Int32)), .val (.ref b101), .val (.int (5 : Int32)), .val (.int (0 : Int32)), .unset, .unset, .unset, .unset, .unset, .unset, .unset, .unset]) (pc' := 118) C X479 at_116 rfl rfl ?_
    refine Go.lloadN (pc' := 119) C X479 at_118 rfl rfl ?_
    refine Go.ldc2J (pc' := 122) C X479 at_119 (tw hw 13 rfl) rfl ?_
    refine Go.land (pc' := 123) C X479 at_122 rfl ?_
    refine Go.iload (pc' := 125) C X479 at_123 rfl rfl ?_
    refine Go.callS (y := mN4) (pc' := 128) C X479 (tw hw 14 rfl) (tw hw 15 rfl) (by decide) (rm_kp5 l Z a0 hw ((p1 &&& (1099511627775 : Int64))) T138.heap O478 ) (tw hw 16 rfl) (tw hw 4 rfl) e479 (argsL := [(.long (p1 &&& (1099511627775 : Int64))), (.int (5 : Int32))]) (rest := []) (W := 0) rfl rfl pd_25 rfl (Nat.le_of_eq rfl) rfl (by decide) (by decide) (by decide) (by decide) at_125 rfl ?_
    intro T480 v480 L480 X480 q480
    obtain ⟨rfl, rfl, e480⟩ := q480
    have N480 := Fr.app N479 (Fr.nil _)
    refine Go.lstore (Ls' := #[.val (.long p1), .second, .val (.long p2), .second, .val (.int p3), .val (.int (5 : Int32)), .val (.ref b101), .val (.int (5 : Int32)), .val (.int (0 : Int32)), .val (.long (p1 &&& (1099511627775 : Int64))), .second, .unset, .unset, .unset, .unset, .unset, .unset]) (pc' := 130) C X480 at_128 rfl rfl ?_
    refine Go.lloadN (pc' := 131) C X480 at_130 rfl rfl ?_
    refine Go.ldc2J (pc' := 134) C X480 at_131 (tw hw 13 rfl) rfl ?_
    refine Go.land (pc' := 135) C X480 at_134 rfl ?_
    refine Go.iload (pc' := 137) C X480 at_135 rfl rfl ?_
    refine Go.callS (y := mN4) (pc' := 140) C X480 (tw hw 14 rfl) (tw hw 15 rfl) (by decide) (rm_kp0 l Z a0 hw ((p2 &&& (1099511627775 : Int64))) T138.heap O478 (msk _)) (tw hw 16 rfl) (tw hw 4 rfl) e480 (argsL := [(.long (p2 &&& (1099511627775 : Int64))), (.int (0 : Int32))]) (rest := []) (W := 0) rfl rfl pd_25 rfl (Nat.le_of_eq rfl) rfl (by decide) (by decide) (by decide) (by decide) at_137 rfl ?_
    intro T481 v481 L481 X481 q481
    obtain ⟨K_481, rfl, rfl, e481, p481_0⟩ := q481
    have N481 := Fr.app N480 (Fr.nil _)
    refine Go.lstore (Ls' := #[.val (.long p1), .second, .val (.long p2), .second, .val (.int p3), .val (.int (5 : Int32)), .val (.ref b101), .val (.int (5 : Int32)), .val (.int (0 : Int32)), .val (.long (p1 &&& (1099511627775 : Int64))), .second, .val (.long K_481), .second, .unset, .unset, .unset, .unset]) (pc' := 142) C X481 at_140 rfl rfl ?_
    exact K142 _ _ X481 e481 N481 (5 : Int32) (5 : Int32) (0 : Int32) (p1 &&& (1099511627775 : Int64)) K_481 (Or.inr (Or.inr (Or.inr (Or.inr (Or.inr (Or.inl ⟨hn5, rfl, rfl, rfl, (by omega), p481_0⟩))))))
  · rw [show nn.toInt32 = (6 : Int32) from by rw [hn6]; rfl]
    refine Go.iload (pc' := 102) C X138 at_100 rfl rfl ?_
    refine Go.iconst (z := (5 : Int32)) (pc' := 103) C X138 at_102 rfl rfl ?_
    have O483 : Ext Z.heap T138.heap := (Ext.keep O139 K138 (allS n_b101 all0))
    refine Go.callS (y := mN14) (pc' := 106) C X138 (tw hw 6 rfl) (tw hw 7 rfl) (by decide) (rm_min2 l Z a0 hw ((6 : Int32)) ((5 : Int32)) T138.heap O483 (by decide)) (tw hw 9 rfl) (tw hw 8 rfl) rfl (argsL := [(.int (6 : Int32)), (.int (5 : Int32))]) (rest := []) (W := 0) rfl rfl pd_24 rfl (Nat.le_of_eq rfl) rfl (by decide) (by decide) (by decide) (by decide) at_103 rfl ?_
    intro T482 v482 L482 X482 q482
    obtain ⟨rfl, rfl, e482⟩ := q482
    have N482 := Fr.app N138 (Fr.nil _)
    refine Go.istore (Ls' := #[.val (.long p1), .second, .val (.long p2), .second, .val (.int p3), .val (.int (6 : Int32)), .val (.ref b101), .val (.int (5 : Int32)), .unset, .unset, .unset, .unset, .unset, .unset, .unset, .unset, .unset]) (pc' := 108) C X482 at_106 rfl rfl ?_
    refine Go.iload (pc' := 110) C X482 at_108 rfl rfl ?_
    refine Go.iconst (z := (5 : Int32)) (pc' := 111) C X482 at_110 rfl rfl ?_
    refine Go.isub (pc' := 112) C X482 at_111 rfl ?_
    rw [show ((6 : Int32) - (5 : Int32)) = (1 : Int32) from by decide]
    refine Go.iconst (z := (0 : Int32)) (pc' := 113) C X482 at_112 rfl rfl ?_
    refine Go.callS (y := mN13) (pc' := 116) C X482 (tw hw 10 rfl) (tw hw 11 rfl) (by decide) (rm_max1 l Z a0 hw ((1 : Int32)) ((0 : Int32)) T138.heap O483 (by decide)) (tw hw 12 rfl) (tw hw 8 rfl) e482 (argsL := [(.int (1 : Int32)), (.int (0 : Int32))]) (rest := []) (W := 0) rfl rfl pd_24 rfl (Nat.le_of_eq rfl) rfl (by decide) (by decide) (by decide) (by decide) at_113 rfl ?_
    intro T484 v484 L484 X484 q484
    obtain ⟨rfl, rfl, e484⟩ := q484
    have N484 := Fr.app N482 (Fr.nil _)
    refine Go.istore (Ls' := #[.val (.long p1), .second, .val (.long p2), .second, .val (.int p3), .val (.int (6 : Int32)), .val (.ref b101), .val (.int (5 : Int32)), .val (.int (1 : Int32)), .unset, .unset, .unset, .unset, .unset, .unset, .unset, .unset]) (pc' := 118) C X484 at_116 rfl rfl ?_
    refine Go.lloadN (pc' := 119) C X484 at_118 rfl rfl ?_
    refine Go.ldc2J (pc' := 122) C X484 at_119 (tw hw 13 rfl) rfl ?_
    refine Go.land (pc' := 123) C X484 at_122 rfl ?_
    refine Go.iload (pc' := 125) C X484 at_123 rfl rfl ?_
    refine Go.callS (y := mN4) (pc' := 128) C X484 (tw hw 14 rfl) (tw hw 15 rfl) (by decide) (rm_kp5 l Z a0 hw ((p1 &&& (1099511627775 : Int64))) T138.heap O483 ) (tw hw 16 rfl) (tw hw 4 rfl) e484 (argsL := [(.long (p1 &&& (1099511627775 : Int64))), (.int (5 : Int32))]) (rest := []) (W := 0) rfl rfl pd_25 rfl (Nat.le_of_eq rfl) rfl (by decide) (by decide) (by decide) (by decide) at_125 rfl ?_
    intro T485 v485 L485 X485 q485
    obtain ⟨rfl, rfl, e485⟩ := q485
    have N485 := Fr.app N484 (Fr.nil _)
    refine Go.lstore (Ls' := #[.val (.long p1), .second, .val (.long p2), .second, .val (.int p3), .val (.int (6 : Int32)), .val (.ref b101), .val (.int (5 : Int32)), .val (.int (1 : Int32)), .val (.long (p1 &&& (1099511627775 : Int64))), .second, .unset, .unset, .unset, .unset, .unset, .unset]) (pc' := 130) C X485 at_128 rfl rfl ?_
    refine Go.lloadN (pc' := 131) C X485 at_130 rfl rfl ?_
    refine Go.ldc2J (pc' := 134) C X485 at_131 (tw hw 13 rfl) rfl ?_
    refine Go.land (pc' := 135) C X485 at_134 rfl ?_
    refine Go.iload (pc' := 137) C X485 at_135 rfl rfl ?_
    refine Go.callS (y := mN4) (pc' := 140) C X485 (tw hw 14 rfl) (tw hw 15 rfl) (by decide) (rm_kp1 l Z a0 hw ((p2 &&& (1099511627775 : Int64))) T138.heap O483 (msk _)) (tw hw 16 rfl) (tw hw 4 rfl) e485 (argsL := [(.long (p2 &&& (1099511627775 : Int64))), (.int (1 : Int32))]) (rest := []) (W := 0) rfl rfl pd_25 rfl (Nat.le_of_eq rfl) rfl (by decide) (by decide) (by decide) (by decide) at_137 rfl ?_
    intro T486 v486 L486 X486 q486
    obtain ⟨K_486, rfl, rfl, e486, p486_0⟩ := q486
    have N486 := Fr.app N485 (Fr.nil _)
    refine Go.lstore (Ls' := #[.val (.long p1), .second, .val (.long p2), .second, .val (.int p3), .val (.int (6 : Int32)), .val (.ref b101), .val (.int (5 : Int32)), .val (.int (1 : Int32)), .val (.long (p1 &&& (1099511627775 : Int64))), .second, .val (.long K_486), .second, .unset, .unset, .unset, .unset]) (pc' := 142) C X486 at_140 rfl rfl ?_
    exact K142 _ _ X486 e486 N486 (6 : Int32) (5 : Int32) (1 : Int32) (p1 &&& (1099511627775 : Int64)) K_486 (Or.inr (Or.inr (Or.inr (Or.inr (Or.inr (Or.inr (Or.inl ⟨hn6, rfl, rfl, rfl, (by omega), p486_0⟩)))))))
  · rw [show nn.toInt32 = (7 : Int32) from by rw [hn7]; rfl]
    refine Go.iload (pc' := 102) C X138 at_100 rfl rfl ?_
    refine Go.iconst (z := (5 : Int32)) (pc' := 103) C X138 at_102 rfl rfl ?_
    have O488 : Ext Z.heap T138.heap := (Ext.keep O139 K138 (allS n_b101 all0))
    refine Go.callS (y := mN14) (pc' := 106) C X138 (tw hw 6 rfl) (tw hw 7 rfl) (by decide) (rm_min2 l Z a0 hw ((7 : Int32)) ((5 : Int32)) T138.heap O488 (by decide)) (tw hw 9 rfl) (tw hw 8 rfl) rfl (argsL := [(.int (7 : Int32)), (.int (5 : Int32))]) (rest := []) (W := 0) rfl rfl pd_24 rfl (Nat.le_of_eq rfl) rfl (by decide) (by decide) (by decide) (by decide) at_103 rfl ?_
    intro T487 v487 L487 X487 q487
    obtain ⟨rfl, rfl, e487⟩ := q487
    have N487 := Fr.app N138 (Fr.nil _)
    refine Go.istore (Ls' := #[.val (.long p1), .second, .val (.long p2), .second, .val (.int p3), .val (.int (7 : Int32)), .val (.ref b101), .val (.int (5 : Int32)), .unset, .unset, .unset, .unset, .unset, .unset, .unset, .unset, .unset]) (pc' := 108) C X487 at_106 rfl rfl ?_
    refine Go.iload (pc' := 110) C X487 at_108 rfl rfl ?_
    refine Go.iconst (z := (5 : Int32)) (pc' := 111) C X487 at_110 rfl rfl ?_
    refine Go.isub (pc' := 112) C X487 at_111 rfl ?_
    rw [show ((7 : Int32) - (5 : Int32)) = (2 : Int32) from by decide]
    refine Go.iconst (z := (0 : Int32)) (pc' := 113) C X487 at_112 rfl rfl ?_
    refine Go.callS (y := mN13) (pc' := 116) C X487 (tw hw 10 rfl) (tw hw 11 rfl) (by decide) (rm_max1 l Z a0 hw ((2 : Int32)) ((0 : Int32)) T138.heap O488 (by decide)) (tw hw 12 rfl) (tw hw 8 rfl) e487 (argsL := [(.int (2 : Int32)), (.int (0 : Int32))]) (rest := []) (W := 0) rfl rfl pd_24 rfl (Nat.le_of_eq rfl) rfl (by decide) (by decide) (by decide) (by decide) at_113 rfl ?_
    intro T489 v489 L489 X489 q489
    obtain ⟨rfl, rfl, e489⟩ := q489
    have N489 := Fr.app N487 (Fr.nil _)
    refine Go.istore (Ls' := #[.val (.long p1), .second, .val (.long p2), .second, .val (.int p3), .val (.int (7 : Int32)), .val (.ref b101), .val (.int (5 : Int32)), .val (.int (2 : Int32)), .unset, .unset, .unset, .unset, .unset, .unset, .unset, .unset]) (pc' := 118) C X489 at_116 rfl rfl ?_
    refine Go.lloadN (pc' := 119) C X489 at_118 rfl rfl ?_
    refine Go.ldc2J (pc' := 122) C X489 at_119 (tw hw 13 rfl) rfl ?_
    refine Go.land (pc' := 123) C X489 at_122 rfl ?_
    refine Go.iload (pc' := 125) C X489 at_123 rfl rfl ?_
    refine Go.callS (y := mN4) (pc' := 128) C X489 (tw hw 14 rfl) (tw hw 15 rfl) (by decide) (rm_kp5 l Z a0 hw ((p1 &&& (1099511627775 : Int64))) T138.heap O488 ) (tw hw 16 rfl) (tw hw 4 rfl) e489 (argsL := [(.long (p1 &&& (1099511627775 : Int64))), (.int (5 : Int32))]) (rest := []) (W := 0) rfl rfl pd_25 rfl (Nat.le_of_eq rfl) rfl (by decide) (by decide) (by decide) (by decide) at_125 rfl ?_
    intro T490 v490 L490 X490 q490
    obtain ⟨rfl, rfl, e490⟩ := q490
    have N490 := Fr.app N489 (Fr.nil _)
    refine Go.lstore (Ls' := #[.val (.long p1), .second, .val (.long p2), .second, .val (.int p3), .val (.int (7 : Int32)), .val (.ref b101), .val (.int (5 : Int32)), .val (.int (2 : Int32)), .val (.long (p1 &&& (1099511627775 : Int64))), .second, .unset, .unset, .unset, .unset, .unset, .unset]) (pc' := 130) C X490 at_128 rfl rfl ?_
    refine Go.lloadN (pc' := 131) C X490 at_130 rfl rfl ?_
    refine Go.ldc2J (pc' := 134) C X490 at_131 (tw hw 13 rfl) rfl ?_
    refine Go.land (pc' := 135) C X490 at_134 rfl ?_
    refine Go.iload (pc' := 137) C X490 at_135 rfl rfl ?_
    refine Go.callS (y := mN4) (pc' := 140) C X490 (tw hw 14 rfl) (tw hw 15 rfl) (by decide) (rm_kp2 l Z a0 hw ((p2 &&& (1099511627775 : Int64))) T138.heap O488 (msk _)) (tw hw 16 rfl) (tw hw 4 rfl) e490 (argsL := [(.long (p2 &&& (1099511627775 : Int64))), (.int (2 : Int32))]) (rest := []) (W := 0) rfl rfl pd_25 rfl (Nat.le_of_eq rfl) rfl (by decide) (by decide) (by decide) (by decide) at_137 rfl ?_
    intro T491 v491 L491 X491 q491
    obtain ⟨K_491, rfl, rfl, e491, p491_0⟩ := q491
    have N491 := Fr.app N490 (Fr.nil _)
    refine Go.lstore (Ls' := #[.val (.long p1), .second, .val (.long p2), .second, .val (.int p3), .val (.int (7 : Int32)), .val (.ref b101), .val (.int (5 : Int32)), .val (.int (2 : Int32)), .val (.long (p1 &&& (1099511627775 : Int64))), .second, .val (.long K_491), .second, .unset, .unset, .unset, .unset]) (pc' := 142) C X491 at_140 rfl rfl ?_
    exact K142 _ _ X491 e491 N491 (7 : Int32) (5 : Int32) (2 : Int32) (p1 &&& (1099511627775 : Int64)) K_491 (Or.inr (Or.inr (Or.inr (Or.inr (Or.inr (Or.inr (Or.inr (Or.inl ⟨hn7, rfl, rfl, rfl, (by omega), p491_0⟩))))))))
  · rw [show nn.toInt32 = (8 : Int32) from by rw [hn8]; rfl]
    refine Go.iload (pc' := 102) C X138 at_100 rfl rfl ?_
    refine Go.iconst (z := (5 : Int32)) (pc' := 103) C X138 at_102 rfl rfl ?_
    have O493 : Ext Z.heap T138.heap := (Ext.keep O139 K138 (allS n_b101 all0))
    refine Go.callS (y := mN14) (pc' := 106) C X138 (tw hw 6 rfl) (tw hw 7 rfl) (by decide) (rm_min2 l Z a0 hw ((8 : Int32)) ((5 : Int32)) T138.heap O493 (by decide)) (tw hw 9 rfl) (tw hw 8 rfl) rfl (argsL := [(.int (8 : Int32)), (.int (5 : Int32))]) (rest := []) (W := 0) rfl rfl pd_24 rfl (Nat.le_of_eq rfl) rfl (by decide) (by decide) (by decide) (by decide) at_103 rfl ?_
    intro T492 v492 L492 X492 q492
    obtain ⟨rfl, rfl, e492⟩ := q492
    have N492 := Fr.app N138 (Fr.nil _)
    refine Go.istore (Ls' := #[.val (.long p1), .second, .val (.long p2), .second, .val (.int p3), .val (.int (8 : Int32)), .val (.ref b101), .val (.int (5 : Int32)), .unset, .unset, .unset, .unset, .unset, .unset, .unset, .unset, .unset]) (pc' := 108) C X492 at_106 rfl rfl ?_
    refine Go.iload (pc' := 110) C X492 at_108 rfl rfl ?_
    refine Go.iconst (z := (5 : Int32)) (pc' := 111) C X492 at_110 rfl rfl ?_
    refine Go.isub (pc' := 112) C X492 at_111 rfl ?_
    rw [show ((8 : Int32) - (5 : Int32)) = (3 : Int32) from by decide]
    refine Go.iconst (z := (0 : Int32)) (pc' := 113) C X492 at_112 rfl rfl ?_
    refine Go.callS (y := mN13) (pc' := 116) C X492 (tw hw 10 rfl) (tw hw 11 rfl) (by decide) (rm_max1 l Z a0 hw ((3 : Int32)) ((0 : Int32)) T138.heap O493 (by decide)) (tw hw 12 rfl) (tw hw 8 rfl) e492 (argsL := [(.int (3 : Int32)), (.int (0 : Int32))]) (rest := []) (W := 0) rfl rfl pd_24 rfl (Nat.le_of_eq rfl) rfl (by decide) (by decide) (by decide) (by decide) at_113 rfl ?_
    intro T494 v494 L494 X494 q494
    obtain ⟨rfl, rfl, e494⟩ := q494
    have N494 := Fr.app N492 (Fr.nil _)
    refine Go.istore (Ls' := #[.val (.long p1), .second, .val (.long p2), .second, .val (.int p3), .val (.int (8 : Int32)), .val (.ref b101), .val (.int (5 : Int32)), .val (.int (3 : Int32)), .unset, .unset, .unset, .unset, .unset, .unset, .unset, .unset]) (pc' := 118) C X494 at_116 rfl rfl ?_
    refine Go.lloadN (pc' := 119) C X494 at_118 rfl rfl ?_
    refine Go.ldc2J (pc' := 122) C X494 at_119 (tw hw 13 rfl) rfl ?_
    refine Go.land (pc' := 123) C X494 at_122 rfl ?_
    refine Go.iload (pc' := 125) C X494 at_123 rfl rfl ?_
    refine Go.callS (y := mN4) (pc' := 128) C X494 (tw hw 14 rfl) (tw hw 15 rfl) (by decide) (rm_kp5 l Z a0 hw ((p1 &&& (1099511627775 : Int64))) T138.heap O493 ) (tw hw 16 rfl) (tw hw 4 rfl) e494 (argsL := [(.long (p1 &&& (1099511627775 : Int64))), (.int (5 : Int32))]) (rest := []) (W := 0) rfl rfl pd_25 rfl (Nat.le_of_eq rfl) rfl (by decide) (by decide) (by decide) (by decide) at_125 rfl ?_
    intro T495 v495 L495 X495 q495
    obtain ⟨rfl, rfl, e495⟩ := q495
    have N495 := Fr.app N494 (Fr.nil _)
    refine Go.lstore (Ls' := #[.val (.long p1), .second, .val (.long p2), .second, .val (.int p3), .val (.int (8 : Int32)), .val (.ref b101), .val (.int (5 : Int32)), .val (.int (3 : Int32)), .val (.long (p1 &&& (1099511627775 : Int64))), .second, .unset, .unset, .unset, .unset, .unset, .unset]) (pc' := 130) C X495 at_128 rfl rfl ?_
    refine Go.lloadN (pc' := 131) C X495 at_130 rfl rfl ?_
    refine Go.ldc2J (pc' := 134) C X495 at_131 (tw hw 13 rfl) rfl ?_
    refine Go.land (pc' := 135) C X495 at_134 rfl ?_
    refine Go.iload (pc' := 137) C X495 at_135 rfl rfl ?_
    refine Go.callS (y := mN4) (pc' := 140) C X495 (tw hw 14 rfl) (tw hw 15 rfl) (by decide) (rm_kp3 l Z a0 hw ((p2 &&& (1099511627775 : Int64))) T138.heap O493 (msk _)) (tw hw 16 rfl) (tw hw 4 rfl) e495 (argsL := [(.long (p2 &&& (1099511627775 : Int64))), (.int (3 : Int32))]) (rest := []) (W := 0) rfl rfl pd_25 rfl (Nat.le_of_eq rfl) rfl (by decide) (by decide) (by decide) (by decide) at_137 rfl ?_
    intro T496 v496 L496 X496 q496
    obtain ⟨K_496, rfl, rfl, e496, p496_0⟩ := q496
    have N496 := Fr.app N495 (Fr.nil _)
    refine Go.lstore (Ls' := #[.val (.long p1), .second, .val (.long p2), .second, .val (.int p3), .val (.int (8 : Int32)), .val (.ref b101), .val (.int (5 : Int32)), .val (.int (3 : Int32)), .val (.long (p1 &&& (1099511627775 : Int64))), .second, .val (.long K_496), .second, .unset, .unset, .unset, .unset]) (pc' := 142) C X496 at_140 rfl rfl ?_
    exact K142 _ _ X496 e496 N496 (8 : Int32) (5 : Int32) (3 : Int32) (p1 &&& (1099511627775 : Int64)) K_496 (Or.inr (Or.inr (Or.inr (Or.inr (Or.inr (Or.inr (Or.inr (Or.inr (Or.inl ⟨hn8, rfl, rfl, rfl, (by omega), p496_0⟩)))))))))
  · rw [show nn.toInt32 = (9 : Int32) from by rw [hn9]; rfl]
    refine Go.iload (pc' := 102) C X138 at_100 rfl rfl ?_
    refine Go.iconst (z := (5 : Int32)) (pc' := 103) C X138 at_102 rfl rfl ?_
    have O498 : Ext Z.heap T138.heap := (Ext.keep O139 K138 (allS n_b101 all0))
    refine Go.callS (y := mN14) (pc' := 106) C X138 (tw hw 6 rfl) (tw hw 7 rfl) (by decide) (rm_min2 l Z a0 hw ((9 : Int32)) ((5 : Int32)) T138.heap O498 (by decide)) (tw hw 9 rfl) (tw hw 8 rfl) rfl (argsL := [(.int (9 : Int32)), (.int (5 : Int32))]) (rest := []) (W := 0) rfl rfl pd_24 rfl (Nat.le_of_eq rfl) rfl (by decide) (by decide) (by decide) (by decide) at_103 rfl ?_
    intro T497 v497 L497 X497 q497
    obtain ⟨rfl, rfl, e497⟩ := q497
    have N497 := Fr.app N138 (Fr.nil _)
    refine Go.istore (Ls' := #[.val (.long p1), .second, .val (.long p2), .second, .val (.int p3), .val (.int (9 : Int32)), .val (.ref b101), .val (.int (5 : Int32)), .unset, .unset, .unset, .unset, .unset, .unset, .unset, .unset, .unset]) (pc' := 108) C X497 at_106 rfl rfl ?_
    refine Go.iload (pc' := 110) C X497 at_108 rfl rfl ?_
    refine Go.iconst (z := (5 : Int32)) (pc' := 111) C X497 at_110 rfl rfl ?_
    refine Go.isub (pc' := 112) C X497 at_111 rfl ?_
    rw [show ((9 : Int32) - (5 : Int32)) = (4 : Int32) from by decide]
    refine Go.iconst (z := (0 : Int32)) (pc' := 113) C X497 at_112 rfl rfl ?_
    refine Go.callS (y := mN13) (pc' := 116) C X497 (tw hw 10 rfl) (tw hw 11 rfl) (by decide) (rm_max1 l Z a0 hw ((4 : Int32)) ((0 : Int32)) T138.heap O498 (by decide)) (tw hw 12 rfl) (tw hw 8 rfl) e497 (argsL := [(.int (4 : Int32)), (.int (0 : Int32))]) (rest := []) (W := 0) rfl rfl pd_24 rfl (Nat.le_of_eq rfl) rfl (by decide) (by decide) (by decide) (by decide) at_113 rfl ?_
    intro T499 v499 L499 X499 q499
    obtain ⟨rfl, rfl, e499⟩ := q499
    have N499 := Fr.app N497 (Fr.nil _)
    refine Go.istore (Ls' := #[.val (.long p1), .second, .val (.long p2), .second, .val (.int p3), .val (.int (9 : Int32)), .val (.ref b101), .val (.int (5 : Int32)), .val (.int (4 : Int32)), .unset, .unset, .unset, .unset, .unset, .unset, .unset, .unset]) (pc' := 118) C X499 at_116 rfl rfl ?_
    refine Go.lloadN (pc' := 119) C X499 at_118 rfl rfl ?_
    refine Go.ldc2J (pc' := 122) C X499 at_119 (tw hw 13 rfl) rfl ?_
    refine Go.land (pc' := 123) C X499 at_122 rfl ?_
    refine Go.iload (pc' := 125) C X499 at_123 rfl rfl ?_
    refine Go.callS (y := mN4) (pc' := 128) C X499 (tw hw 14 rfl) (tw hw 15 rfl) (by decide) (rm_kp5 l Z a0 hw ((p1 &&& (1099511627775 : Int64))) T138.heap O498 ) (tw hw 16 rfl) (tw hw 4 rfl) e499 (argsL := [(.long (p1 &&& (1099511627775 : Int64))), (.int (5 : Int32))]) (rest := []) (W := 0) rfl rfl pd_25 rfl (Nat.le_of_eq rfl) rfl (by decide) (by decide) (by decide) (by decide) at_125 rfl ?_
    intro T500 v500 L500 X500 q500
    obtain ⟨rfl, rfl, e500⟩ := q500
    have N500 := Fr.app N499 (Fr.nil _)
    refine Go.lstore (Ls' := #[.val (.long p1), .second, .val (.long p2), .second, .val (.int p3), .val (.int (9 : Int32)), .val (.ref b101), .val (.int (5 : Int32)), .val (.int (4 : Int32)), .val (.long (p1 &&& (1099511627775 : Int64))), .second, .unset, .unset, .unset, .unset, .unset, .unset]) (pc' := 130) C X500 at_128 rfl rfl ?_
    refine Go.lloadN (pc' := 131) C X500 at_130 rfl rfl ?_
    refine Go.ldc2J (pc' := 134) C X500 at_131 (tw hw 13 rfl) rfl ?_
    refine Go.land (pc' := 135) C X500 at_134 rfl ?_
    refine Go.iload (pc' := 137) C X500 at_135 rfl rfl ?_
    refine Go.callS (y := mN4) (pc' := 140) C X500 (tw hw 14 rfl) (tw hw 15 rfl) (by decide) (rm_kp4 l Z a0 hw ((p2 &&& (1099511627775 : Int64))) T138.heap O498 (msk _)) (tw hw 16 rfl) (tw hw 4 rfl) e500 (argsL := [(.long (p2 &&& (1099511627775 : Int64))), (.int (4 : Int32))]) (rest := []) (W := 0) rfl rfl pd_25 rfl (Nat.le_of_eq rfl) rfl (by decide) (by decide) (by decide) (by decide) at_137 rfl ?_
    intro T501 v501 L501 X501 q501
    obtain ⟨K_501, rfl, rfl, e501, p501_0⟩ := q501
    have N501 := Fr.app N500 (Fr.nil _)
    refine Go.lstore (Ls' := #[.val (.long p1), .second, .val (.long p2), .second, .val (.int p3), .val (.int (9 : Int32)), .val (.ref b101), .val (.int (5 : Int32)), .val (.int (4 : Int32)), .val (.long (p1 &&& (1099511627775 : Int64))), .second, .val (.long K_501), .second, .unset, .unset, .unset, .unset]) (pc' := 142) C X501 at_140 rfl rfl ?_
    exact K142 _ _ X501 e501 N501 (9 : Int32) (5 : Int32) (4 : Int32) (p1 &&& (1099511627775 : Int64)) K_501 (Or.inr (Or.inr (Or.inr (Or.inr (Or.inr (Or.inr (Or.inr (Or.inr (Or.inr (Or.inl ⟨hn9, rfl, rfl, rfl, (by omega), p501_0⟩))))))))))
  · rw [show nn.toInt32 = (10 : Int32) from by rw [hn10]; rfl]
    refine Go.iload (pc' := 102) C X138 at_100 rfl rfl ?_
    refine Go.iconst (z := (5 : Int32)) (pc' := 103) C X138 at_102 rfl rfl ?_
    have O503 : Ext Z.heap T138.heap := (Ext.keep O139 K138 (allS n_b101 all0))
    refine Go.callS (y := mN14) (pc' := 106) C X138 (tw hw 6 rfl) (tw hw 7 rfl) (by decide) (rm_min2 l Z a0 hw ((10 : Int32)) ((5 : Int32)) T138.heap O503 (by decide)) (tw hw 9 rfl) (tw hw 8 rfl) rfl (argsL := [(.int (10 : Int32)), (.int (5 : Int32))]) (rest := []) (W := 0) rfl rfl pd_24 rfl (Nat.le_of_eq rfl) rfl (by decide) (by decide) (by decide) (by decide) at_103 rfl ?_
    intro T502 v502 L502 X502 q502
    obtain ⟨rfl, rfl, e502⟩ := q502
    have N502 := Fr.app N138 (Fr.nil _)
    refine Go.istore (Ls' := #[.val (.long p1), .second, .val (.long p2), .second, .val (.int p3), .val (.int (10 : Int32)), .val (.ref b101), .val (.int (5 : Int32)), .unset, .unset, .unset, .unset, .unset, .unset, .unset, .unset, .unset]) (pc' := 108) C X502 at_106 rfl rfl ?_
    refine Go.iload (pc' := 110) C X502 at_108 rfl rfl ?_
    refine Go.iconst (z := (5 : Int32)) (pc' := 111) C X502 at_110 rfl rfl ?_
    refine Go.isub (pc' := 112) C X502 at_111 rfl ?_
    rw [show ((10 : Int32) - (5 : Int32)) = (5 : Int32) from by decide]
    refine Go.iconst (z := (0 : Int32)) (pc' := 113) C X502 at_112 rfl rfl ?_
    refine Go.callS (y := mN13) (pc' := 116) C X502 (tw hw 10 rfl) (tw hw 11 rfl) (by decide) (rm_max1 l Z a0 hw ((5 : Int32)) ((0 : Int32)) T138.heap O503 (by decide)) (tw hw 12 rfl) (tw hw 8 rfl) e502 (argsL := [(.int (5 : Int32)), (.int (0 : Int32))]) (rest := []) (W := 0) rfl rfl pd_24 rfl (Nat.le_of_eq rfl) rfl (by decide) (by decide) (by decide) (by decide) at_113 rfl ?_
    intro T504 v504 L504 X504 q504
    obtain ⟨rfl, rfl, e504⟩ := q504
    have N504 := Fr.app N502 (Fr.nil _)
    refine Go.istore (Ls' := #[.val (.long p1), .second, .val (.long p2), .second, .val (.int p3), .val (.int (10 : Int32)), .val (.ref b101), .val (.int (5 : Int32)), .val (.int (5 : Int32)), .unset, .unset, .unset, .unset, .unset, .unset, .unset, .unset]) (pc' := 118) C X504 at_116 rfl rfl ?_
    refine Go.lloadN (pc' := 119) C X504 at_118 rfl rfl ?_
    refine Go.ldc2J (pc' := 122) C X504 at_119 (tw hw 13 rfl) rfl ?_
    refine Go.land (pc' := 123) C X504 at_122 rfl ?_
    refine Go.iload (pc' := 125) C X504 at_123 rfl rfl ?_
    refine Go.callS (y := mN4) (pc' := 128) C X504 (tw hw 14 rfl) (tw hw 15 rfl) (by decide) (rm_kp5 l Z a0 hw ((p1 &&& (1099511627775 : Int64))) T138.heap O503 ) (tw hw 16 rfl) (tw hw 4 rfl) e504 (argsL := [(.long (p1 &&& (1099511627775 : Int64))), (.int (5 : Int32))]) (rest := []) (W := 0) rfl rfl pd_25 rfl (Nat.le_of_eq rfl) rfl (by decide) (by decide) (by decide) (by decide) at_125 rfl ?_
    intro T505 v505 L505 X505 q505
    obtain ⟨rfl, rfl, e505⟩ := q505
    have N505 := Fr.app N504 (Fr.nil _)
    refine Go.lstore (Ls' := #[.val (.long p1), .second, .val (.long p2), .second, .val (.int p3), .val (.int (10 : Int32)), .val (.ref b101), .val (.int (5 : Int32)), .val (.int (5 : Int32)), .val (.long (p1 &&& (1099511627775 : Int64))), .second, .unset, .unset, .unset, .unset, .unset, .unset]) (pc' := 130) C X505 at_128 rfl rfl ?_
    refine Go.lloadN (pc' := 131) C X505 at_130 rfl rfl ?_
    refine Go.ldc2J (pc' := 134) C X505 at_131 (tw hw 13 rfl) rfl ?_
    refine Go.land (pc' := 135) C X505 at_134 rfl ?_
    refine Go.iload (pc' := 137) C X505 at_135 rfl rfl ?_
    refine Go.callS (y := mN4) (pc' := 140) C X505 (tw hw 14 rfl) (tw hw 15 rfl) (by decide) (rm_kp5 l Z a0 hw ((p2 &&& (1099511627775 : Int64))) T138.heap O503 ) (tw hw 16 rfl) (tw hw 4 rfl) e505 (argsL := [(.long (p2 &&& (1099511627775 : Int64))), (.int (5 : Int32))]) (rest := []) (W := 0) rfl rfl pd_25 rfl (Nat.le_of_eq rfl) rfl (by decide) (by decide) (by decide) (by decide) at_137 rfl ?_
    intro T506 v506 L506 X506 q506
    obtain ⟨rfl, rfl, e506⟩ := q506
    have N506 := Fr.app N505 (Fr.nil _)
    refine Go.lstore (Ls' := #[.val (.long p1), .second, .val (.long p2), .second, .val (.int p3), .val (.int (10 : Int32)), .val (.ref b101), .val (.int (5 : Int32)), .val (.int (5 : Int32)), .val (.long (p1 &&& (1099511627775 : Int64))), .second, .val (.long (p2 &&& (1099511627775 : Int64))), .second, .unset, .unset, .unset, .unset]) (pc' := 142) C X506 at_140 rfl rfl ?_
    exact K142 _ _ X506 e506 N506 (10 : Int32) (5 : Int32) (5 : Int32) (p1 &&& (1099511627775 : Int64)) (p2 &&& (1099511627775 : Int64)) (Or.inr (Or.inr (Or.inr (Or.inr (Or.inr (Or.inr (Or.inr (Or.inr (Or.inr (Or.inr (⟨hn10, rfl, rfl, rfl, (by omega), (by omega)⟩)))))))))))
theorem eqI_v {args : Array Value} {Z : State} {t : Term} {x n : Int32} (h : t.eval args Z none [] Z = some (.int x)) : (Jvm.Cond.eq t (.int n)).value args Z none Z [] = some (decide (x = n)) := by simp [Cond.value, Term.eval, h]
theorem own_eqI {args : Array Value} {Z : State} {t : Term} {n : Int32} (h : (Jvm.Cond.eq t (.int n)).value args Z none Z [] = some true) : t.eval args Z none [] Z = some (.int n) := by
  simp only [Cond.value, Term.eval] at h
  cases ht : t.eval args Z none [] Z with
  | none => simp [ht] at h
  | some x => cases x <;> simp [ht] at h ⊢; exact h
theorem own_len {args : Array Value} {Z : State} {t : Term} {a : Addr} {c : Cell} {ty : FieldType} {n : Int32} (ev : t.eval args Z none [] Z = some (.ref a)) (A : Arr Z Z.heap a c ty) (h : (Jvm.Cond.eq (.length t) (.int n)).value args Z none Z [] = some true) : c.slots.size = n.toNatClampNeg := by
  have e := own_eqI h
  obtain ⟨x, cell, e1, e2, e3⟩ := Term.length_spec e
  cases ev.symm.trans e1
  cases (IntBox.arrayAt_of A.1 A.2.1 A.2.2).symm.trans e2
  by_cases hl : c.slots.size < 2 ^ 31
  · rw [Value.int.inj e3, n32_nat hl]
  · simp [Term.eval, ev, e2, hl] at e
theorem own_tab {args : Array Value} {Z : State} {t : Term} {a : Addr} {c : Cell} (ht : ∀ idx, t.eval args Z none idx Z = some (.ref a)) (A : Arr Z Z.heap a c .char) (hs : c.slots.size = 32)
    (h1 : (Jvm.Cond.all t (Jvm.Cond.or (Jvm.Cond.le (Jvm.Term.int (26 : Int32)) (Jvm.Term.index (0 : Nat))) (Jvm.Cond.eq (Jvm.Term.op1 Jvm.Unary.i2l (Jvm.Term.elem t (Jvm.Term.index (0 : Nat)))) (Jvm.Term.op2 Jvm.Binary.ladd (Jvm.Term.op1 Jvm.Unary.i2l (Jvm.Term.index (0 : Nat))) (Jvm.Term.long (65 : Int64)))))).value args Z none Z [] = some true)
    (h2 : (Jvm.Cond.all t (Jvm.Cond.or (Jvm.Cond.lt (Jvm.Term.index (0 : Nat)) (Jvm.Term.int (26 : Int32))) (Jvm.Cond.eq (Jvm.Term.op1 Jvm.Unary.i2l (Jvm.Term.elem t (Jvm.Term.index (0 : Nat)))) (Jvm.Term.op2 Jvm.Binary.ladd (Jvm.Term.op1 Jvm.Unary.i2l (Jvm.Term.index (0 : Nat))) (Jvm.Term.long (24 : Int64)))))).value args Z none Z [] = some true) :
    ∀ x : Int32, 0 ≤ x.toInt → x.toInt < 32 → c.slots.toList[x.toNatClampNeg]? = some (.int (alf x)) := by
  intro x h0 h3
  have hA := IntBox.arrayAt_of A.1 A.2.1 A.2.2
  obtain ⟨i, hi⟩ : ∃ i, i = x.toNatClampNeg := ⟨_, rfl⟩
  have hi' : (i : Int) = x.toInt := by rw [hi]; simp only [Int32.toNatClampNeg]; omega
  have hx : i.toInt32 = x := by apply Int32.toInt_inj.mp; rw [n32_int (by omega)]; exact hi'
  have q1 := Cond.all_elim (ht []) hA h1 i (by omega)
  have q2 := Cond.all_elim (ht []) hA h2 i (by omega)
  have nx : ¬ x < 0 := neg_of h0
  obtain ⟨v, hv⟩ : ∃ v, c.slots[i]? = some v := ⟨_, Array.getElem?_eq_getElem (by omega)⟩
  rw [Array.getElem?_toList, ← hi, hv]
  have ixe : (Jvm.Term.index (0 : Nat)).eval args Z none [i] Z = some (.int x) := by simp [Term.eval, hx]
  have el : (Jvm.Term.elem t (Jvm.Term.index (0 : Nat))).eval args Z none [i] Z = some v := by
    rw [Term.eval, ht, ixe]
    simp [nx, hA, ← hi, hv]
  have e1 : ∀ n : Int64, (Jvm.Cond.eq (Jvm.Term.op1 Jvm.Unary.i2l (Jvm.Term.elem t (Jvm.Term.index (0 : Nat)))) (Jvm.Term.op2 Jvm.Binary.ladd (Jvm.Term.op1 Jvm.Unary.i2l (Jvm.Term.index (0 : Nat))) (Jvm.Term.long n))).value args Z none Z [i] = some true → ∃ y : Int32, v = .int y ∧ y.toInt64 = x.toInt64 + n := by
    intro n h
    have f1 : (Jvm.Term.op1 Jvm.Unary.i2l (Jvm.Term.elem t (Jvm.Term.index (0 : Nat)))).eval args Z none [i] Z = Unary.apply .i2l v := by rw [Term.eval, el]; rfl
    have f2 : (Jvm.Term.op2 Jvm.Binary.ladd (Jvm.Term.op1 Jvm.Unary.i2l (Jvm.Term.index (0 : Nat))) (Jvm.Term.long n)).eval args Z none [i] Z = some (.long (x.toInt64 + n)) := by
      simp [Term.eval, hx, Unary.apply, Binary.apply]
    rw [Cond.value, f1, f2] at h
    cases v <;> simp [Unary.apply] at h
    exact ⟨_, rfl, h⟩
  have fin : ∀ (y : Int32) (n : Int64) (g : Int32), y.toInt64 = x.toInt64 + n → 0 ≤ n.toInt → n.toInt < 100 → g.toInt = x.toInt + n.toInt → some (Value.int y) = some (.int g) := by
    intro y n g hy n0 n1 hg
    have a := congrArg Int64.toInt hy
    have b := c_ladd x.toInt64 n
    have r := rng64 (x.toInt64 + n)
    rw [Int32.toInt_toInt64] at a b
    have : y = g := by apply Int32.toInt_inj.mp; omega
    rw [this]
  by_cases hc : x < (26 : Int32)
  · have l1 : (Jvm.Cond.le (Jvm.Term.int (26 : Int32)) (Jvm.Term.index (0 : Nat))).value args Z none Z [i] = some false := by
      have ke : (Jvm.Term.int (26 : Int32)).eval args Z none [i] Z = some (.int 26) := rfl
      rw [Cond.value, ke, ixe]
      show some (decide ((26 : Int32) ≤ x)) = some false
      rw [decide_eq_false]
      rw [Int32.le_iff_toInt_le]; rw [Int32.lt_iff_toInt_lt] at hc; simp only [Int32.reduceToInt] at hc ⊢; omega
    rw [Cond.value, l1] at q1
    obtain ⟨y, rfl, hy⟩ := e1 65 q1
    refine fin y 65 _ hy (by decide) (by decide) ?_
    have e : alf x = (65 : Int32) + x := if_pos hc
    have u := c_iadd (65 : Int32) x
    have r := rng32 ((65 : Int32) + x)
    rw [e]; simp only [Int32.reduceToInt, Int64.reduceToInt] at u ⊢; omega
  · have l1 : (Jvm.Cond.lt (Jvm.Term.index (0 : Nat)) (Jvm.Term.int (26 : Int32))).value args Z none Z [i] = some false := by
      have ke : (Jvm.Term.int (26 : Int32)).eval args Z none [i] Z = some (.int 26) := rfl
      rw [Cond.value, ke, ixe]
      show some (decide (x < (26 : Int32))) = some false
      rw [decide_eq_false hc]
    rw [Cond.value, l1] at q2
    obtain ⟨y, rfl, hy⟩ := e1 24 q2
    refine fin y 24 _ hy (by decide) (by decide) ?_
    have e : alf x = (50 : Int32) + (x - (26 : Int32)) := if_neg hc
    have u0 := c_isub x (26 : Int32)
    have r0 := rng32 (x - (26 : Int32))
    have u := c_iadd (50 : Int32) (x - (26 : Int32))
    have r := rng32 ((50 : Int32) + (x - (26 : Int32)))
    rw [e]; simp only [Int32.reduceToInt, Int64.reduceToInt] at u u0 ⊢; omega
theorem comes_1 {Post : Tables → Env → Array Value → State → Outcome → State → Prop} (hpost : ∀ tb e args s v u, (limb_1_1.after args s (.returned v) u = true ∧ limb_1_2.after args s (.returned v) u = true ∧ True) → ReturnedEndW s (.returned v) u (Jvm.fieldLocs frame_1_writes args s ++ Jvm.arrayLocs frame_1_arrays args s ++ Jvm.staticLocs frame_1_statics s) 32 1280 → Post tb e args s (.returned v) u) :
    ArmFor flags0 classFile x code maxLocals ret World_1 tables_1 room_1 Calls_1 rest_1 Pre_1 Post := by
  intro l hfl _ _ p e ha hc hk s m args below hf hA hF happ hP
  obtain ⟨hcalls, hrest, hpre⟩ := hP
  obtain ⟨-, -, -, hnamed, -, -, -, hat⟩ := (Spec.applies_iff hf).mp happ
  obtain ⟨hg, hn⟩ := and_e (Cond.before_iff.mp (show (Jvm.Cond.and given_1 narrow_1).before args s = true from hpre))
  obtain ⟨g1, g2⟩ := and_e hg
  obtain ⟨g3, g4⟩ := and_e g2
  obtain ⟨g5, g6⟩ := and_e g4
  obtain ⟨g7, g8⟩ := and_e hn
  obtain ⟨g9, g10⟩ := and_e g8
  obtain ⟨g11, g12⟩ := and_e g10
  obtain ⟨w0, w1, w2, rfl⟩ : ∃ w0 w1 w2 : Value, args = #[w0, w1, w2] := by
    have hs : args.size = 3 := by simpa [Cond.value, given_1] using g1
    obtain ⟨L⟩ := args
    match L, hs with
    | [w0, w1, w2], _ => exact ⟨w0, w1, w2, rfl⟩
  have hw := fun d (hd : d ∈ tables_1) => atoms_spec (ws := Jvm.Cond.code x code maxLocals ret :: tables_1) hat d (List.mem_cons_of_mem _ hd)
  have hfit : Fit s := fun {y c} hc i hi => by
    obtain ⟨ha, rfl⟩ := Array.getElem?_eq_some_iff.mp hc
    have q := List.all_eq_true.mp ((Array.all_eq_true_iff_forall_mem.mp hF) _ (Array.getElem_mem ha)) i (List.mem_range.mpr hi)
    simpa [Array.getElem?_eq_getElem hi] using q
  obtain ⟨hsets, hown0⟩ := atoms_of _ (rest_1_c_eq ▸ (show rest_1_c.before _ s = true from hrest))
  obtain ⟨i0, ei0⟩ := isL_v g3
  obtain rfl : w0 = (.long i0) := Option.some.inj ei0
  obtain ⟨i1, ei1⟩ := isL_v g5
  obtain rfl : w1 = (.long i1) := Option.some.inj ei1
  obtain ⟨i2, ei2⟩ := is_v g6
  obtain rfl : w2 = (.int i2) := Option.some.inj ei2
  obtain ⟨cP, vP⟩ := is_v (Cond.before_iff.mp (hsets _ (List.mem_of_getElem? (i := 1) rfl)))
  have SP := Sta.start vP (Or.inl (hsets _ (List.mem_of_getElem? (i := 0) rfl)))
  have hP : ¬ cP = (0 : Int32) := gotF (eqI_v vP) (not_v (Cond.before_iff.mp (hsets _ (List.mem_of_getElem? (i := 2) rfl))))
  obtain ⟨ta, vta⟩ := arr_v g7
  have STs := Sta.start vta (Or.inr ⟨(tw hw 41 rfl), (tw hw 145 rfl)⟩)
  obtain ⟨ct, rt⟩ := Arr.start vta g7
  have lt := own_len vta rt g9
  have htb := own_tab (fun _ => vta) rt lt g11 g12
  have ATs : AL s s.heap ta ct.cls .char ct.slots.toList := ⟨ct, rt, rfl, by simp⟩
  obtain ⟨n, o, h1, h2, h3, _, L, rfl, ⟨rfl, N, -⟩, -, hq⟩ := rm_law l s _ hw i0 i1 i2 cP ta ct.cls ct.slots.toList s.heap (Ext.refl _) SP STs ATs hP htb tables_1 p e ha hc hk s m _ below hf ((Spec.applies_iff_loose hf).mp happ).1 ⟨rfl, State.Warmed39.refl s, rfl, CHv.start (EWc hw) (fun p hp => hcalls.1 p hp) (hsets _ (List.mem_of_getElem? (i := 2) rfl)) (tw hw 1 rfl) (tw hw 34 rfl), fun _ hx => nomatch hx⟩ trivial
  refine ⟨n, _, h1, h2, h3, hpost _ _ _ _ _ _ ⟨Cond.after_iff.mpr rfl, Cond.after_iff.mpr (eq_i res_at (Term.int_eval (1)) rfl), trivial⟩ ⟨hq.1, hq.2.1, hq.2.2.1, (hq.2.2.2.sift fun y hy => Or.inr (N y hy)).mono (by decide) (by decide)⟩⟩
theorem main_1_1 : Claimed_1_1 := comes_1 fun _ _ _ _ _ _ h hF => ⟨h.1, hF⟩
theorem main_1_2 : Claimed_1_2 := comes_1 fun _ _ _ _ _ _ h hF => ⟨h.2.1, hF⟩
end Jvm.Pilot.@@N@@
namespace Jvm.Pilot.@@N@@
open Jvm Jvm.ClassFile Sem Op Lib Jvm.Free Jvm.Stand Jvm.Pilot.@@N@@.Jvm.D
/-! MADE BY PROGRAM (witnessworld.py) out of the Statement's table words and the real class files: 25 classes; the members and pool entries that the words name. The judged class is class 1, her method 1. -/
namespace start1
open Jvm.ClassFile
def u (s : String) : CpInfo := .utf8 (stringToUtf16 s)
/-- a pool by its gaps: so many unusable entries, then the entry; so many at the end -/
def gap : Nat → List CpInfo → List CpInfo
  | 0, r => r
  | n + 1, r => .unusable :: gap n r
def poolList (es : List (Nat × CpInfo)) (last : Nat) : List CpInfo := es.foldr (fun e r => gap e.1 (e.2 :: r)) (gap last [])
def pool (es : List (Nat × CpInfo)) (last : Nat) : Array CpInfo := ⟨poolList es last⟩
def fileOf (pool : Array CpInfo) (this : Nat) (attrs : Array Attribute := #[]) (ms : Array MethodInfo := #[]) (fl : Nat := 33) (sup : Nat := 0) (ifs : Array Nat := #[]) (fds : Array FieldInfo := #[]) : ClassFile where
  minorVersion := 0
  majorVersion := 65
  constantPool := pool
  accessFlags := fl
  thisClass := this
  superClass := sup
  interfaces := ifs
  fields := fds
  methods := ms
  attributes := attrs
def plain (name : String) (sup : Option ClassId) : Class where
  name := name
  kind := .ordinary
  loader := none
  accessFlags := 33
  super := sup
  interfaces := #[]
  cf := none
  fields := #[]
  methods := #[]
  instanceTypes := #[]
  staticTypes := #[]
  resolved := #[]
  callSites := []
  init := .initialized
  statics := none
  mirror := none

def pool0 : Array CpInfo := pool [(5, u "<init>"), (0, u "()V"), (1, .class_ 10), (1, u "java/lang/Object"), (85, u "clone"), (0, u "()Ljava/lang/Object;")] 26

def k0c0 : Code := { maxStack := 0, maxLocals := 1, code := object_method_1_code, exceptionTable := #[], attributes := #[] }
def k0m0 : Method := { name := "<init>", desc := "()V", sig := { parameters := [], returnType := none }, accessFlags := 1, code := some k0c0 }
def k0m1 : Method := { name := "clone", desc := "()Ljava/lang/Object;", sig := { parameters := [], returnType := some (.object "java/lang/Object") }, accessFlags := 260, code := none }
/-- java/lang/Object -/
def k0 : Class := { plain "java/lang/Object" none with
  accessFlags := 33
  interfaces := #[]
  cf := some (fileOf pool0 8 #[] #[{ accessFlags := 1, nameIndex := 5, descriptorIndex := 6, attributes := #[] }, { accessFlags := 260, nameIndex := 96, descriptorIndex := 97, attributes := #[] }] 33 0 #[] #[])
  fields := #[]
  methods := #[k0m0, k0m1]
  instanceTypes := #[]
  staticTypes := #[]
  resolved := Array.replicate 124 none
  statics := none }

def pool1 : Array CpInfo := pool [(2, .class_ 4), (1, u "java/lang/Object"), (0, u "<init>"), (0, u "()V"), (0, .integer 2147483647), (0, .methodref 9 10), (0, .class_ 11), (0, .nameAndType 12 13), (0, u "com/example/barrault/barrault/io/WarcDigestBase32PinLaw"), (0, u "put"), (0, u "([BIJI)V"), (0, .methodref 15 16), (0, .class_ 17), (0, .nameAndType 18 19), (0, u "java/lang/Math"), (0, u "min"), (0, u "(II)I"), (0, .methodref 15 21), (0, .nameAndType 22 19), (0, u "max"), (0, .long 1099511627775), (1, .methodref 9 26), (0, .nameAndType 27 28), (0, u "keep"), (0, u "(JI)J"), (0, .methodref 9 30), (0, .nameAndType 31 32), (0, u "fill"), (0, u "([CIJI)V"), (0, .string 34), (0, u ""), (0, .class_ 36), (0, u "java/lang/String"), (0, .methodref 35 38), (0, .nameAndType 5 39), (0, u "([C)V"), (0, .methodref 41 42), (0, .class_ 43), (0, .nameAndType 44 45), (0, u "com/example/barrault/barrault/io/WarcDigest"), (0, u "base32"), (0, u "([B)Ljava/lang/String;"), (0, .methodref 35 47), (0, .nameAndType 48 49), (0, u "equals"), (0, u "(Ljava/lang/Object;)Z"), (0, .long 18446744073709551615), (1, .methodref 9 53), (0, .nameAndType 54 55), (0, u "sig"), (0, u "(I)I"), (0, .long 31), (1, .methodref 9 59), (0, .nameAndType 60 61), (0, u "alpha"), (0, u "(I)C"), (0, .methodref 9 63), (0, .nameAndType 64 65), (0, u "enc"), (0, u "(JII)C"), (2, u "law"), (0, u "(JJI)Z")] 7

def k1m0 : Method := { name := "<init>", desc := "()V", sig := { parameters := [], returnType := none }, accessFlags := 1, code := none }
def k1c1 : Code := { maxStack := 5, maxLocals := 17, code := code, exceptionTable := #[], attributes := #[] }
def k1m1 : Method := { name := "law", desc := "(JJI)Z", sig := { parameters := [.long, .long, .int], returnType := some .boolean }, accessFlags := 9, code := some k1c1 }
def k1c2 : Code := { maxStack := 7, maxLocals := 5, code := method_3_code, exceptionTable := #[], attributes := #[] }
def k1m2 : Method := { name := "put", desc := "([BIJI)V", sig := { parameters := [(.array .byte), .int, .long, .int], returnType := none }, accessFlags := 10, code := some k1c2 }
def k1c3 : Code := { maxStack := 7, maxLocals := 3, code := method_4_code, exceptionTable := #[], attributes := #[] }
def k1m3 : Method := { name := "keep", desc := "(JI)J", sig := { parameters := [.long, .int], returnType := some .long }, accessFlags := 10, code := some k1c3 }
def k1c4 : Code := { maxStack := 2, maxLocals := 1, code := method_5_code, exceptionTable := #[], attributes := #[] }
def k1m4 : Method := { name := "sig", desc := "(I)I", sig := { parameters := [.int], returnType := some .int }, accessFlags := 10, code := some k1c4 }
def k1c5 : Code := { maxStack := 3, maxLocals := 1, code := method_6_code, exceptionTable := #[], attributes := #[] }
def k1m5 : Method := { name := "alpha", desc := "(I)C", sig := { parameters := [.int], returnType := some .char }, accessFlags := 10, code := some k1c5 }
def k1c6 : Code := { maxStack := 5, maxLocals := 4, code := method_7_code, exceptionTable := #[], attributes := #[] }
def k1m6 : Method := { name := "enc", desc := "(JII)C", sig := { parameters := [.long, .int, .int], returnType := some .char }, accessFlags := 10, code := some k1c6 }
def k1c7 : Code := { maxStack := 6, maxLocals := 5, code := method_8_code, exceptionTable := #[], attributes := #[] }
def k1m7 : Method := { name := "fill", desc := "([CIJI)V", sig := { parameters := [(.array .char), .int, .long, .int], returnType := none }, accessFlags := 10, code := some k1c7 }
/-- com/example/barrault/barrault/io/WarcDigestBase32PinLaw -/
def k1 : Class := { plain "com/example/barrault/barrault/io/WarcDigestBase32PinLaw" (some 0) with
  accessFlags := 49
  interfaces := #[]
  cf := some (fileOf pool1 9 #[] #[{ accessFlags := 1, nameIndex := 5, descriptorIndex := 6, attributes := #[] }, { accessFlags := 9, nameIndex := 68, descriptorIndex := 69, attributes := #[] }, { accessFlags := 10, nameIndex := 12, descriptorIndex := 13, attributes := #[] }, { accessFlags := 10, nameIndex := 27, descriptorIndex := 28, attributes := #[] }, { accessFlags := 10, nameIndex := 54, descriptorIndex := 55, attributes := #[] }, { accessFlags := 10, nameIndex := 60, descriptorIndex := 61, attributes := #[] }, { accessFlags := 10, nameIndex := 64, descriptorIndex := 65, attributes := #[] }, { accessFlags := 10, nameIndex := 31, descriptorIndex := 32, attributes := #[] }] 49 2 #[] #[])
  fields := #[]
  methods := #[k1m0, k1m1, k1m2, k1m3, k1m4, k1m5, k1m6, k1m7]
  instanceTypes := #[]
  staticTypes := #[]
  resolved := Array.replicate 77 none
  statics := none }

def pool2 : Array CpInfo := pool [(1, .class_ 2), (0, u "java/lang/Math"), (1, .class_ 6), (1, u "java/lang/Object"), (0, u "<init>"), (0, u "()V"), (89, .class_ 100), (1, u "java/lang/Math$RandomNumberGeneratorHolder"), (71, u "negativeZeroFloatBits"), (0, u "J"), (2, u "negativeZeroDoubleBits"), (21, u "max"), (2, u "min"), (43, u "$assertionsDisabled"), (0, u "Z"), (88, u "(II)I"), (2, u "twoToTheDoubleScaleDown"), (0, u "D"), (4, u "twoToTheDoubleScaleUp"), (9, u "E"), (3, u "PI"), (2, u "TAU"), (2, u "DEGREES_TO_RADIANS"), (0, u "RADIANS_TO_DEGREES")] 94

def k2m0 : Method := { name := "<init>", desc := "()V", sig := { parameters := [], returnType := none }, accessFlags := 2, code := none }
def k2c1 : Code := { maxStack := 2, maxLocals := 2, code := jdk_29_method_65_code, exceptionTable := #[], attributes := #[] }
def k2m1 : Method := { name := "max", desc := "(II)I", sig := { parameters := [.int, .int], returnType := some .int }, accessFlags := 9, code := some k2c1 }
def k2c2 : Code := { maxStack := 2, maxLocals := 2, code := jdk_29_method_69_code, exceptionTable := #[], attributes := #[] }
def k2m2 : Method := { name := "min", desc := "(II)I", sig := { parameters := [.int, .int], returnType := some .int }, accessFlags := 9, code := some k2c2 }
/-- java/lang/Math -/
def k2 : Class := { plain "java/lang/Math" (some 0) with
  accessFlags := 49
  interfaces := #[]
  cf := some (fileOf pool2 1 #[.nestMembers #[98]] #[{ accessFlags := 2, nameIndex := 7, descriptorIndex := 8, attributes := #[] }, { accessFlags := 9, nameIndex := 198, descriptorIndex := 335, attributes := #[] }, { accessFlags := 9, nameIndex := 201, descriptorIndex := 335, attributes := #[] }] 49 4 #[] #[{ accessFlags := 25, nameIndex := 354, descriptorIndex := 339, attributes := #[] }, { accessFlags := 25, nameIndex := 358, descriptorIndex := 339, attributes := #[] }, { accessFlags := 25, nameIndex := 361, descriptorIndex := 339, attributes := #[] }, { accessFlags := 26, nameIndex := 364, descriptorIndex := 339, attributes := #[] }, { accessFlags := 26, nameIndex := 365, descriptorIndex := 339, attributes := #[] }, { accessFlags := 26, nameIndex := 172, descriptorIndex := 173, attributes := #[] }, { accessFlags := 26, nameIndex := 176, descriptorIndex := 173, attributes := #[] }, { accessFlags := 8, nameIndex := 344, descriptorIndex := 339, attributes := #[] }, { accessFlags := 8, nameIndex := 338, descriptorIndex := 339, attributes := #[] }, { accessFlags := 4120, nameIndex := 245, descriptorIndex := 246, attributes := #[] }])
  fields := #[{ name := "E", type := .double, accessFlags := 25, slot := 0, constantValue := 0 }, { name := "PI", type := .double, accessFlags := 25, slot := 1, constantValue := 0 }, { name := "TAU", type := .double, accessFlags := 25, slot := 2, constantValue := 0 }, { name := "DEGREES_TO_RADIANS", type := .double, accessFlags := 26, slot := 3, constantValue := 0 }, { name := "RADIANS_TO_DEGREES", type := .double, accessFlags := 26, slot := 4, constantValue := 0 }, { name := "negativeZeroFloatBits", type := .long, accessFlags := 26, slot := 5, constantValue := 0 }, { name := "negativeZeroDoubleBits", type := .long, accessFlags := 26, slot := 6, constantValue := 0 }, { name := "twoToTheDoubleScaleUp", type := .double, accessFlags := 8, slot := 7, constantValue := 0 }, { name := "twoToTheDoubleScaleDown", type := .double, accessFlags := 8, slot := 8, constantValue := 0 }, { name := "$assertionsDisabled", type := .boolean, accessFlags := 4120, slot := 9, constantValue := 0 }]
  methods := #[k2m0, k2m1, k2m2]
  instanceTypes := #[]
  staticTypes := #[.double, .double, .double, .double, .double, .long, .long, .double, .double, .boolean]
  resolved := Array.replicate 460 none
  statics := none }

def pool3 : Array CpInfo := pool [(1, .class_ 2), (0, u "java/io/Serializable"), (0, .class_ 4), (0, u "java/lang/Object")] 2

/-- java/io/Serializable -/
def k3 : Class := { plain "java/io/Serializable" (some 0) with
  accessFlags := 1537
  interfaces := #[]
  cf := some (fileOf pool3 1 #[] #[] 1537 3 #[] #[])
  fields := #[]
  methods := #[]
  instanceTypes := #[]
  staticTypes := #[]
  resolved := Array.replicate 7 none
  statics := none }

def pool4 : Array CpInfo := pool [(1, .class_ 2), (0, u "java/lang/Comparable"), (0, .class_ 4), (0, u "java/lang/Object")] 7

/-- java/lang/Comparable -/
def k4 : Class := { plain "java/lang/Comparable" (some 0) with
  accessFlags := 1537
  interfaces := #[]
  cf := some (fileOf pool4 1 #[] #[] 1537 3 #[] #[])
  fields := #[]
  methods := #[]
  instanceTypes := #[]
  staticTypes := #[]
  resolved := Array.replicate 12 none
  statics := none }

def pool5 : Array CpInfo := pool [(2, .class_ 4), (1, u "java/lang/CharSequence"), (42, .class_ 48), (0, u "java/lang/CharSequence$1CodePointIterator"), (10, .class_ 60), (0, u "java/lang/CharSequence$1CharIterator"), (5, .class_ 67), (0, u "java/lang/Object")] 63

/-- java/lang/CharSequence -/
def k5 : Class := { plain "java/lang/CharSequence" (some 0) with
  accessFlags := 1537
  interfaces := #[]
  cf := some (fileOf pool5 2 #[.nestMembers #[47, 59]] #[] 1537 66 #[] #[])
  fields := #[]
  methods := #[]
  instanceTypes := #[]
  staticTypes := #[]
  resolved := Array.replicate 131 none
  statics := none }

def pool6 : Array CpInfo := pool [(1, .class_ 2), (0, u "java/lang/constant/Constable"), (0, .class_ 4), (0, u "java/lang/Object")] 6

/-- java/lang/constant/Constable -/
def k6 : Class := { plain "java/lang/constant/Constable" (some 0) with
  accessFlags := 1537
  interfaces := #[]
  cf := some (fileOf pool6 1 #[] #[] 1537 3 #[] #[])
  fields := #[]
  methods := #[]
  instanceTypes := #[]
  staticTypes := #[]
  resolved := Array.replicate 11 none
  statics := none }

def pool7 : Array CpInfo := pool [(1, .class_ 2), (0, u "java/lang/constant/ConstantDesc"), (0, .class_ 4), (0, u "java/lang/Object")] 32

/-- java/lang/constant/ConstantDesc -/
def k7 : Class := { plain "java/lang/constant/ConstantDesc" (some 0) with
  accessFlags := 1537
  interfaces := #[]
  cf := some (fileOf pool7 1 #[] #[] 1537 3 #[] #[])
  fields := #[]
  methods := #[]
  instanceTypes := #[]
  staticTypes := #[]
  resolved := Array.replicate 37 none
  statics := none }

def pool8 : Array CpInfo := pool [(1, .methodref 2 3), (0, .class_ 4), (0, .nameAndType 5 6), (0, u "java/lang/Object"), (0, u "<init>"), (0, u "()V"), (2, .fieldref 10 11), (0, .class_ 12), (0, .nameAndType 13 14), (0, u "java/lang/String"), (0, u "value"), (0, u "[B"), (0, .fieldref 10 16), (0, .nameAndType 17 18), (0, u "coder"), (0, u "B"), (2, u "hash"), (0, u "I"), (2, u "hashIsZero"), (0, u "Z"), (0, .methodref 10 28), (0, .nameAndType 5 29), (0, u "([CIILjava/lang/Void;)V"), (8, .fieldref 10 39), (0, .nameAndType 40 26), (0, u "COMPACT_STRINGS"), (1, .class_ 44), (1, u "java/lang/StringUTF16"), (0, u "compress"), (1, .methodref 42 48), (0, .nameAndType 49 50), (0, u "coderFromArrayLen"), (0, u "([BI)B"), (3, .methodref 55 56), (0, .class_ 57), (0, .nameAndType 58 59), (0, u "java/util/Arrays"), (0, u "copyOfRange"), (0, u "([BII)[B"), (47, .class_ 109), (1, u "java/lang/StringLatin1"), (32, u "()Z"), (34, .methodref 42 178), (0, .nameAndType 45 179), (0, u "([CII)[B"), (154, u "()I"), (5, u "()[B"), (148, .methodref 10 490), (0, .nameAndType 5 491), (0, u "(Ljava/lang/AbstractStringBuilder;Ljava/lang/Void;)V"), (1, .nameAndType 494 142), (0, u "isLatin1"), (11, .nameAndType 507 334), (0, u "length"), (33, .methodref 107 542), (0, .nameAndType 543 544), (0, u "equals"), (0, u "([B[B)Z"), (4, .methodref 550 506), (0, .class_ 551), (0, u "java/lang/AbstractStringBuilder"), (0, .methodref 550 553), (0, .nameAndType 554 340), (0, u "getValue"), (18, u "(Ljava/lang/Object;)Z"), (1, .class_ 576), (0, u "java/lang/CharSequence"), (22, u "CASE_INSENSITIVE_ORDER"), (0, u "Ljava/util/Comparator;"), (409, u "([C)V"), (36, .methodref 550 493), (53, u "serialPersistentFields"), (0, u "[Ljava/io/ObjectStreamField;"), (0, .class_ 1104), (0, u "java/lang/String$CaseInsensitiveComparator"), (1, .class_ 1107), (0, u "java/io/Serializable"), (0, .class_ 1109), (0, u "java/lang/Comparable"), (0, .class_ 1111), (0, u "java/lang/constant/Constable"), (0, .class_ 1113), (0, u "java/lang/constant/ConstantDesc"), (2, u "serialVersionUID"), (0, u "J"), (3, u "REPL"), (0, u "C"), (2, u "LATIN1"), (1, u "UTF16"), (105, u "(Ljava/lang/StringBuilder;)V")] 217

def k8m0 : Method := { name := "<init>", desc := "()V", sig := { parameters := [], returnType := none }, accessFlags := 1, code := none }
def k8c1 : Code := { maxStack := 5, maxLocals := 2, code := jdk_42_method_3_code, exceptionTable := #[], attributes := #[] }
def k8m1 : Method := { name := "<init>", desc := "([C)V", sig := { parameters := [(.array .char)], returnType := none }, accessFlags := 1, code := some k8c1 }
def k8c2 : Code := { maxStack := 3, maxLocals := 2, code := jdk_42_method_53_code, exceptionTable := #[], attributes := #[] }
def k8m2 : Method := { name := "<init>", desc := "(Ljava/lang/StringBuilder;)V", sig := { parameters := [(.object "java/lang/StringBuilder")], returnType := none }, accessFlags := 1, code := some k8c2 }
def k8c3 : Code := { maxStack := 2, maxLocals := 3, code := jdk_42_method_66_code, exceptionTable := #[], attributes := #[] }
def k8m3 : Method := { name := "equals", desc := "(Ljava/lang/Object;)Z", sig := { parameters := [(.object "java/lang/Object")], returnType := some .boolean }, accessFlags := 1, code := some k8c3 }
def k8c4 : Code := { maxStack := 4, maxLocals := 6, code := jdk_42_method_149_code, exceptionTable := #[], attributes := #[] }
def k8m4 : Method := { name := "<init>", desc := "([CIILjava/lang/Void;)V", sig := { parameters := [(.array .char), .int, .int, (.object "java/lang/Void")], returnType := none }, accessFlags := 2, code := some k8c4 }
def k8c5 : Code := { maxStack := 5, maxLocals := 5, code := jdk_42_method_150_code, exceptionTable := #[], attributes := #[] }
def k8m5 : Method := { name := "<init>", desc := "(Ljava/lang/AbstractStringBuilder;Ljava/lang/Void;)V", sig := { parameters := [(.object "java/lang/AbstractStringBuilder"), (.object "java/lang/Void")], returnType := none }, accessFlags := 0, code := some k8c5 }
/-- java/lang/String -/
def k8 : Class := { plain "java/lang/String" (some 0) with
  accessFlags := 49
  interfaces := #[3, 4, 5, 6, 7]
  cf := some (fileOf pool8 10 #[.nestMembers #[1103]] #[{ accessFlags := 1, nameIndex := 5, descriptorIndex := 6, attributes := #[] }, { accessFlags := 1, nameIndex := 5, descriptorIndex := 1010, attributes := #[] }, { accessFlags := 1, nameIndex := 5, descriptorIndex := 1233, attributes := #[] }, { accessFlags := 1, nameIndex := 543, descriptorIndex := 573, attributes := #[] }, { accessFlags := 2, nameIndex := 5, descriptorIndex := 29, attributes := #[] }, { accessFlags := 0, nameIndex := 5, descriptorIndex := 491, attributes := #[] }] 49 2 #[1106, 1108, 575, 1110, 1112] #[{ accessFlags := 18, nameIndex := 13, descriptorIndex := 14, attributes := #[] }, { accessFlags := 18, nameIndex := 17, descriptorIndex := 18, attributes := #[] }, { accessFlags := 2, nameIndex := 21, descriptorIndex := 22, attributes := #[] }, { accessFlags := 2, nameIndex := 25, descriptorIndex := 26, attributes := #[] }, { accessFlags := 26, nameIndex := 1116, descriptorIndex := 1117, attributes := #[] }, { accessFlags := 24, nameIndex := 40, descriptorIndex := 26, attributes := #[] }, { accessFlags := 26, nameIndex := 1101, descriptorIndex := 1102, attributes := #[] }, { accessFlags := 26, nameIndex := 1121, descriptorIndex := 1122, attributes := #[] }, { accessFlags := 25, nameIndex := 599, descriptorIndex := 600, attributes := #[] }, { accessFlags := 24, nameIndex := 1125, descriptorIndex := 18, attributes := #[] }, { accessFlags := 24, nameIndex := 1127, descriptorIndex := 18, attributes := #[] }])
  fields := #[{ name := "value", type := (.array .byte), accessFlags := 18, slot := 0, constantValue := 0 }, { name := "coder", type := .byte, accessFlags := 18, slot := 1, constantValue := 0 }, { name := "hash", type := .int, accessFlags := 2, slot := 2, constantValue := 0 }, { name := "hashIsZero", type := .boolean, accessFlags := 2, slot := 3, constantValue := 0 }, { name := "serialVersionUID", type := .long, accessFlags := 26, slot := 0, constantValue := 0 }, { name := "COMPACT_STRINGS", type := .boolean, accessFlags := 24, slot := 1, constantValue := 0 }, { name := "serialPersistentFields", type := (.array (.object "java/io/ObjectStreamField")), accessFlags := 26, slot := 2, constantValue := 0 }, { name := "REPL", type := .char, accessFlags := 26, slot := 3, constantValue := 0 }, { name := "CASE_INSENSITIVE_ORDER", type := (.object "java/util/Comparator"), accessFlags := 25, slot := 4, constantValue := 0 }, { name := "LATIN1", type := .byte, accessFlags := 24, slot := 5, constantValue := 0 }, { name := "UTF16", type := .byte, accessFlags := 24, slot := 6, constantValue := 0 }]
  methods := #[k8m0, k8m1, k8m2, k8m3, k8m4, k8m5]
  instanceTypes := #[(.array .byte), .byte, .int, .boolean]
  staticTypes := #[.long, .boolean, (.array (.object "java/io/ObjectStreamField")), .char, (.object "java/util/Comparator"), .byte, .byte]
  resolved := Array.replicate 1451 none
  statics := some 0 }

def pool9 : Array CpInfo := pool [(2, .class_ 4), (1, u "java/lang/Object"), (0, u "<init>"), (0, u "()V"), (9, .class_ 18), (1, u "com/example/barrault/barrault/io/WarcDigest"), (0, u "sha1"), (0, u "Ljava/security/MessageDigest;"), (15, u "()Ljava/lang/String;"), (7, u "base32"), (0, u "([B)Ljava/lang/String;"), (4, .class_ 51), (0, u "java/lang/StringBuilder"), (0, .methodref 50 53), (0, .nameAndType 5 54), (0, u "(I)V"), (0, .fieldref 16 56), (0, .nameAndType 57 58), (0, u "BASE32"), (0, u "[C"), (0, .methodref 50 60), (0, .nameAndType 61 62), (0, u "append"), (0, u "(C)Ljava/lang/StringBuilder;"), (0, .methodref 50 64), (0, .nameAndType 65 66), (0, u "length"), (0, u "()I"), (0, .methodref 50 68), (0, .nameAndType 69 36), (0, u "toString"), (8, u "LABEL"), (0, u "Ljava/lang/String;")] 27

def k9m0 : Method := { name := "<init>", desc := "()V", sig := { parameters := [], returnType := none }, accessFlags := 1, code := none }
def k9c1 : Code := { maxStack := 5, maxLocals := 8, code := prog_23_method_5_code, exceptionTable := #[], attributes := #[] }
def k9m1 : Method := { name := "base32", desc := "([B)Ljava/lang/String;", sig := { parameters := [(.array .byte)], returnType := some (.object "java/lang/String") }, accessFlags := 8, code := some k9c1 }
/-- com/example/barrault/barrault/io/WarcDigest -/
def k9 : Class := { plain "com/example/barrault/barrault/io/WarcDigest" (some 0) with
  accessFlags := 33
  interfaces := #[]
  cf := some (fileOf pool9 16 #[] #[{ accessFlags := 1, nameIndex := 5, descriptorIndex := 6, attributes := #[] }, { accessFlags := 8, nameIndex := 44, descriptorIndex := 45, attributes := #[] }] 33 2 #[] #[{ accessFlags := 26, nameIndex := 78, descriptorIndex := 79, attributes := #[] }, { accessFlags := 26, nameIndex := 57, descriptorIndex := 58, attributes := #[] }, { accessFlags := 18, nameIndex := 19, descriptorIndex := 20, attributes := #[] }])
  fields := #[{ name := "LABEL", type := (.object "java/lang/String"), accessFlags := 26, slot := 0, constantValue := 0 }, { name := "BASE32", type := (.array .char), accessFlags := 26, slot := 1, constantValue := 0 }, { name := "sha1", type := (.object "java/security/MessageDigest"), accessFlags := 18, slot := 0, constantValue := 0 }]
  methods := #[k9m0, k9m1]
  instanceTypes := #[(.object "java/security/MessageDigest")]
  staticTypes := #[(.object "java/lang/String"), (.array .char)]
  resolved := Array.replicate 107 none
  statics := some 1 }

def pool10 : Array CpInfo := pool [(1, .class_ 2), (0, u "java/lang/Appendable"), (0, .class_ 4), (0, u "java/lang/Object")] 9

/-- java/lang/Appendable -/
def k10 : Class := { plain "java/lang/Appendable" (some 0) with
  accessFlags := 1537
  interfaces := #[]
  cf := some (fileOf pool10 1 #[] #[] 1537 3 #[] #[])
  fields := #[]
  methods := #[]
  instanceTypes := #[]
  staticTypes := #[]
  resolved := Array.replicate 14 none
  statics := none }

def pool11 : Array CpInfo := pool [(1, .class_ 2), (0, u "java/lang/String"), (0, .methodref 4 5), (0, .class_ 6), (0, .nameAndType 7 8), (0, u "java/lang/Object"), (0, u "<init>"), (0, u "()V"), (1, .class_ 12), (1, u "java/lang/AbstractStringBuilder"), (0, u "EMPTYVALUE"), (0, u "[B"), (0, .fieldref 10 16), (0, .nameAndType 17 14), (0, u "value"), (0, .fieldref 1 19), (0, .nameAndType 20 21), (0, u "COMPACT_STRINGS"), (0, u "Z"), (0, .fieldref 10 23), (0, .nameAndType 24 25), (0, u "coder"), (0, u "B"), (8, u "length"), (0, u "()I"), (9, u "append"), (2, .class_ 49), (0, u "java/lang/CharSequence"), (25, u "maybeLatin1"), (3, .fieldref 10 80), (0, .nameAndType 81 82), (0, u "count"), (0, u "I"), (0, .methodref 10 84), (0, .nameAndType 85 86), (0, u "isLatin1"), (0, u "()Z"), (1, .class_ 90), (1, u "java/lang/StringLatin1"), (9, .methodref 10 101), (0, .nameAndType 102 103), (0, u "ensureCapacityInternal"), (0, u "(I)V"), (87, .methodref 88 192), (0, .nameAndType 193 194), (0, u "canEncode"), (0, u "(C)Z"), (97, u "(C)Ljava/lang/AbstractStringBuilder;"), (110, u "()[B"), (40, .class_ 445), (0, u "java/lang/Appendable"), (106, u "getValue")] 56

def k11m0 : Method := { name := "<init>", desc := "()V", sig := { parameters := [], returnType := none }, accessFlags := 0, code := none }
def k11c1 : Code := { maxStack := 2, maxLocals := 2, code := jdk_68_method_2_code, exceptionTable := #[], attributes := #[] }
def k11m1 : Method := { name := "<init>", desc := "(I)V", sig := { parameters := [.int], returnType := none }, accessFlags := 0, code := some k11c1 }
def k11c2 : Code := { maxStack := 1, maxLocals := 1, code := jdk_68_method_6_code, exceptionTable := #[], attributes := #[] }
def k11m2 : Method := { name := "length", desc := "()I", sig := { parameters := [], returnType := some .int }, accessFlags := 1, code := some k11c2 }
def k11c3 : Code := { maxStack := 4, maxLocals := 3, code := jdk_68_method_9_code, exceptionTable := #[], attributes := #[] }
def k11m3 : Method := { name := "ensureCapacityInternal", desc := "(I)V", sig := { parameters := [.int], returnType := none }, accessFlags := 2, code := some k11c3 }
def k11c4 : Code := { maxStack := 5, maxLocals := 2, code := jdk_68_method_31_code, exceptionTable := #[], attributes := #[] }
def k11m4 : Method := { name := "append", desc := "(C)Ljava/lang/AbstractStringBuilder;", sig := { parameters := [.char], returnType := some (.object "java/lang/AbstractStringBuilder") }, accessFlags := 1, code := some k11c4 }
def k11c5 : Code := { maxStack := 1, maxLocals := 1, code := jdk_68_method_64_code, exceptionTable := #[], attributes := #[] }
def k11m5 : Method := { name := "getValue", desc := "()[B", sig := { parameters := [], returnType := some (.array .byte) }, accessFlags := 16, code := some k11c5 }
def k11c6 : Code := { maxStack := 1, maxLocals := 1, code := jdk_68_method_68_code, exceptionTable := #[], attributes := #[] }
def k11m6 : Method := { name := "isLatin1", desc := "()Z", sig := { parameters := [], returnType := some .boolean }, accessFlags := 16, code := some k11c6 }
/-- java/lang/AbstractStringBuilder -/
def k11 : Class := { plain "java/lang/AbstractStringBuilder" (some 0) with
  accessFlags := 1056
  interfaces := #[10, 5]
  cf := some (fileOf pool11 10 #[] #[{ accessFlags := 0, nameIndex := 7, descriptorIndex := 8, attributes := #[] }, { accessFlags := 0, nameIndex := 7, descriptorIndex := 103, attributes := #[] }, { accessFlags := 1, nameIndex := 34, descriptorIndex := 35, attributes := #[] }, { accessFlags := 2, nameIndex := 102, descriptorIndex := 103, attributes := #[] }, { accessFlags := 1, nameIndex := 45, descriptorIndex := 292, attributes := #[] }, { accessFlags := 16, nameIndex := 552, descriptorIndex := 403, attributes := #[] }, { accessFlags := 16, nameIndex := 85, descriptorIndex := 86, attributes := #[] }] 1056 4 #[444, 48] #[{ accessFlags := 0, nameIndex := 17, descriptorIndex := 14, attributes := #[] }, { accessFlags := 0, nameIndex := 24, descriptorIndex := 25, attributes := #[] }, { accessFlags := 0, nameIndex := 75, descriptorIndex := 21, attributes := #[] }, { accessFlags := 0, nameIndex := 81, descriptorIndex := 82, attributes := #[] }, { accessFlags := 26, nameIndex := 13, descriptorIndex := 14, attributes := #[] }])
  fields := #[{ name := "value", type := (.array .byte), accessFlags := 0, slot := 0, constantValue := 0 }, { name := "coder", type := .byte, accessFlags := 0, slot := 1, constantValue := 0 }, { name := "maybeLatin1", type := .boolean, accessFlags := 0, slot := 2, constantValue := 0 }, { name := "count", type := .int, accessFlags := 0, slot := 3, constantValue := 0 }, { name := "EMPTYVALUE", type := (.array .byte), accessFlags := 26, slot := 0, constantValue := 0 }]
  methods := #[k11m0, k11m1, k11m2, k11m3, k11m4, k11m5, k11m6]
  instanceTypes := #[(.array .byte), .byte, .boolean, .int]
  staticTypes := #[(.array .byte)]
  resolved := Array.replicate 609 none
  statics := none }

def pool12 : Array CpInfo := pool [(1, .methodref 2 3), (0, .class_ 4), (0, .nameAndType 5 6), (0, u "java/lang/AbstractStringBuilder"), (0, u "<init>"), (0, u "(I)V"), (11, .class_ 20), (1, u "java/lang/String"), (3, .class_ 26), (1, u "java/lang/StringBuilder"), (0, u "append"), (22, .methodref 2 51), (0, .nameAndType 27 52), (0, u "(C)Ljava/lang/AbstractStringBuilder;"), (84, .methodref 18 138), (0, .nameAndType 5 139), (0, u "(Ljava/lang/StringBuilder;)V"), (5, u "()V"), (10, u "()I"), (129, u "(C)Ljava/lang/StringBuilder;"), (56, .methodref 2 344), (0, .nameAndType 345 156), (0, u "length"), (3, .class_ 350), (0, u "java/lang/Appendable"), (0, .class_ 352), (0, u "java/io/Serializable"), (0, .class_ 354), (0, u "java/lang/Comparable"), (0, .class_ 356), (0, u "java/lang/CharSequence"), (0, u "serialVersionUID"), (0, u "J"), (40, u "toString"), (0, u "()Ljava/lang/String;")] 21

def k12m0 : Method := { name := "<init>", desc := "()V", sig := { parameters := [], returnType := none }, accessFlags := 1, code := none }
def k12c1 : Code := { maxStack := 2, maxLocals := 2, code := jdk_67_method_2_code, exceptionTable := #[], attributes := #[] }
def k12m1 : Method := { name := "<init>", desc := "(I)V", sig := { parameters := [.int], returnType := none }, accessFlags := 1, code := some k12c1 }
def k12c2 : Code := { maxStack := 2, maxLocals := 2, code := jdk_67_method_14_code, exceptionTable := #[], attributes := #[] }
def k12m2 : Method := { name := "append", desc := "(C)Ljava/lang/StringBuilder;", sig := { parameters := [.char], returnType := some (.object "java/lang/StringBuilder") }, accessFlags := 1, code := some k12c2 }
def k12c3 : Code := { maxStack := 3, maxLocals := 1, code := jdk_67_method_42_code, exceptionTable := #[], attributes := #[] }
def k12m3 : Method := { name := "toString", desc := "()Ljava/lang/String;", sig := { parameters := [], returnType := some (.object "java/lang/String") }, accessFlags := 1, code := some k12c3 }
def k12c4 : Code := { maxStack := 1, maxLocals := 1, code := jdk_67_method_93_code, exceptionTable := #[], attributes := #[] }
def k12m4 : Method := { name := "length", desc := "()I", sig := { parameters := [], returnType := some .int }, accessFlags := 4161, code := some k12c4 }
/-- java/lang/StringBuilder -/
def k12 : Class := { plain "java/lang/StringBuilder" (some 11) with
  accessFlags := 49
  interfaces := #[10, 3, 4, 5]
  cf := some (fileOf pool12 24 #[] #[{ accessFlags := 1, nameIndex := 5, descriptorIndex := 145, attributes := #[] }, { accessFlags := 1, nameIndex := 5, descriptorIndex := 6, attributes := #[] }, { accessFlags := 1, nameIndex := 27, descriptorIndex := 286, attributes := #[] }, { accessFlags := 1, nameIndex := 399, descriptorIndex := 400, attributes := #[] }, { accessFlags := 4161, nameIndex := 345, descriptorIndex := 156, attributes := #[] }] 49 2 #[349, 351, 353, 355] #[{ accessFlags := 24, nameIndex := 357, descriptorIndex := 358, attributes := #[] }])
  fields := #[{ name := "serialVersionUID", type := .long, accessFlags := 24, slot := 0, constantValue := 0 }]
  methods := #[k12m0, k12m1, k12m2, k12m3, k12m4]
  instanceTypes := #[(.array .byte), .byte, .boolean, .int]
  staticTypes := #[.long]
  resolved := Array.replicate 422 none
  statics := none }

def pool13 : Array CpInfo := pool [(2, .class_ 4), (1, u "java/lang/Object"), (0, u "<init>"), (0, u "()V"), (7, .class_ 16), (1, u "java/util/Arrays"), (57, .class_ 76), (1, u "java/util/Arrays$NaturalOrder"), (32, u "()Ljava/lang/Object;"), (3, .class_ 115), (1, u "java/util/Arrays$LegacyMergeSort"), (1, u "Z"), (10, .nameAndType 129 109), (0, u "clone"), (9, u "copyOfRange"), (170, .methodref 311 128), (0, .class_ 312), (0, u "[B"), (29, u "([BII)[B"), (32, .class_ 376), (0, u "java/util/Arrays$ArrayList"), (68, u "$assertionsDisabled"), (269, u "MIN_ARRAY_SORT_GRAN"), (0, u "I"), (2, u "INSERTIONSORT_THRESHOLD"), (255, .class_ 976), (0, u "java/util/Arrays$ArrayItr")] 52

def k13m0 : Method := { name := "<init>", desc := "()V", sig := { parameters := [], returnType := none }, accessFlags := 2, code := none }
def k13c1 : Code := { maxStack := 3, maxLocals := 3, code := jdk_65_method_132_code, exceptionTable := #[], attributes := #[] }
def k13m1 : Method := { name := "copyOfRange", desc := "([BII)[B", sig := { parameters := [(.array .byte), .int, .int], returnType := some (.array .byte) }, accessFlags := 9, code := some k13c1 }
/-- java/util/Arrays -/
def k13 : Class := { plain "java/util/Arrays" (some 0) with
  accessFlags := 49
  interfaces := #[]
  cf := some (fileOf pool13 14 #[.nestMembers #[975, 375, 113, 74]] #[{ accessFlags := 2, nameIndex := 5, descriptorIndex := 6, attributes := #[] }, { accessFlags := 9, nameIndex := 139, descriptorIndex := 342, attributes := #[] }] 49 2 #[] #[{ accessFlags := 26, nameIndex := 715, descriptorIndex := 716, attributes := #[] }, { accessFlags := 26, nameIndex := 719, descriptorIndex := 716, attributes := #[] }, { accessFlags := 4120, nameIndex := 445, descriptorIndex := 117, attributes := #[] }])
  fields := #[{ name := "MIN_ARRAY_SORT_GRAN", type := .int, accessFlags := 26, slot := 0, constantValue := 0 }, { name := "INSERTIONSORT_THRESHOLD", type := .int, accessFlags := 26, slot := 1, constantValue := 0 }, { name := "$assertionsDisabled", type := .boolean, accessFlags := 4120, slot := 2, constantValue := 0 }]
  methods := #[k13m0, k13m1]
  instanceTypes := #[]
  staticTypes := #[.int, .int, .boolean]
  resolved := Array.replicate 1029 none
  statics := none }

def pool14 : Array CpInfo := pool [(1, .class_ 2), (0, u "java/lang/Cloneable"), (0, .class_ 4), (0, u "java/lang/Object")] 2

/-- java/lang/Cloneable -/
def k14 : Class := { plain "java/lang/Cloneable" (some 0) with
  accessFlags := 1537
  interfaces := #[]
  cf := some (fileOf pool14 1 #[] #[] 1537 3 #[] #[])
  fields := #[]
  methods := #[]
  instanceTypes := #[]
  staticTypes := #[]
  resolved := Array.replicate 7 none
  statics := none }

def pool15 : Array CpInfo := pool [(4, .class_ 6), (1, u "java/lang/Object"), (0, u "<init>"), (0, u "()V"), (5, .class_ 16), (1, u "java/lang/StringLatin1"), (73, u "canEncode"), (14, u "(C)Z"), (15, u "$assertionsDisabled"), (0, u "Z"), (98, .class_ 223), (1, u "java/lang/StringLatin1$LinesSpliterator"), (57, u "equals"), (0, u "([B[B)Z"), (107, .class_ 391), (0, u "java/lang/StringLatin1$CharsSpliterator")] 3

def k15m0 : Method := { name := "<init>", desc := "()V", sig := { parameters := [], returnType := none }, accessFlags := 0, code := none }
def k15c1 : Code := { maxStack := 2, maxLocals := 1, code := jdk_43_method_3_code, exceptionTable := #[], attributes := #[] }
def k15m1 : Method := { name := "canEncode", desc := "(C)Z", sig := { parameters := [.char], returnType := some .boolean }, accessFlags := 9, code := some k15c1 }
def k15c2 : Code := { maxStack := 3, maxLocals := 3, code := jdk_43_method_13_code, exceptionTable := #[], attributes := #[] }
def k15m2 : Method := { name := "equals", desc := "([B[B)Z", sig := { parameters := [(.array .byte), (.array .byte)], returnType := some .boolean }, accessFlags := 9, code := some k15c2 }
/-- java/lang/StringLatin1 -/
def k15 : Class := { plain "java/lang/StringLatin1" (some 0) with
  accessFlags := 48
  interfaces := #[]
  cf := some (fileOf pool15 14 #[.nestMembers #[390, 221]] #[{ accessFlags := 0, nameIndex := 7, descriptorIndex := 8, attributes := #[] }, { accessFlags := 9, nameIndex := 90, descriptorIndex := 105, attributes := #[] }, { accessFlags := 9, nameIndex := 281, descriptorIndex := 282, attributes := #[] }] 48 4 #[] #[{ accessFlags := 4120, nameIndex := 121, descriptorIndex := 122, attributes := #[] }])
  fields := #[{ name := "$assertionsDisabled", type := .boolean, accessFlags := 4120, slot := 0, constantValue := 0 }]
  methods := #[k15m0, k15m1, k15m2]
  instanceTypes := #[]
  staticTypes := #[.boolean]
  resolved := Array.replicate 395 none
  statics := none }

def pool16 : Array CpInfo := pool [(6, .class_ 8), (1, u "java/lang/Object"), (0, u "<init>"), (0, u "()V"), (1, .class_ 14), (1, u "java/lang/StringUTF16"), (31, u "$assertionsDisabled"), (0, u "Z"), (13, u "HI_BYTE_SHIFT"), (0, u "I"), (2, u "LO_BYTE_SHIFT"), (49, .methodref 12 116), (0, .nameAndType 117 118), (0, u "compress"), (0, u "([CI[BII)I"), (3, u "([CII)[B"), (138, u "coderFromArrayLen"), (0, u "([BI)B"), (106, .class_ 371), (1, u "java/lang/StringUTF16$LinesSpliterator"), (58, u "MAX_LENGTH"), (196, .class_ 628), (0, u "java/lang/StringUTF16$CodePointsSpliterator"), (0, .class_ 630), (0, u "java/lang/StringUTF16$CharsSpliterator")] 4

def k16m0 : Method := { name := "<init>", desc := "()V", sig := { parameters := [], returnType := none }, accessFlags := 0, code := none }
def k16c1 : Code := { maxStack := 2, maxLocals := 2, code := jdk_52_method_15_code, exceptionTable := #[], attributes := #[] }
def k16m1 : Method := { name := "coderFromArrayLen", desc := "([BI)B", sig := { parameters := [(.array .byte), .int], returnType := some .byte }, accessFlags := 8, code := some k16c1 }
def k16c2 : Code := { maxStack := 5, maxLocals := 6, code := jdk_52_method_16_code, exceptionTable := #[], attributes := #[] }
def k16m2 : Method := { name := "compress", desc := "([CII)[B", sig := { parameters := [(.array .char), .int, .int], returnType := some (.array .byte) }, accessFlags := 9, code := some k16c2 }
def k16c3 : Code := { maxStack := 3, maxLocals := 7, code := jdk_52_method_21_code, exceptionTable := #[], attributes := #[] }
def k16m3 : Method := { name := "compress", desc := "([CI[BII)I", sig := { parameters := [(.array .char), .int, (.array .byte), .int, .int], returnType := some .int }, accessFlags := 9, code := some k16c3 }
/-- java/lang/StringUTF16 -/
def k16 : Class := { plain "java/lang/StringUTF16" (some 0) with
  accessFlags := 48
  interfaces := #[]
  cf := some (fileOf pool16 12 #[.nestMembers #[627, 629, 369]] #[{ accessFlags := 0, nameIndex := 9, descriptorIndex := 10, attributes := #[] }, { accessFlags := 8, nameIndex := 261, descriptorIndex := 262, attributes := #[] }, { accessFlags := 9, nameIndex := 117, descriptorIndex := 122, attributes := #[] }, { accessFlags := 9, nameIndex := 117, descriptorIndex := 118, attributes := #[] }] 48 6 #[] #[{ accessFlags := 26, nameIndex := 61, descriptorIndex := 62, attributes := #[] }, { accessFlags := 26, nameIndex := 65, descriptorIndex := 62, attributes := #[] }, { accessFlags := 24, nameIndex := 430, descriptorIndex := 62, attributes := #[] }, { accessFlags := 4120, nameIndex := 46, descriptorIndex := 47, attributes := #[] }])
  fields := #[{ name := "HI_BYTE_SHIFT", type := .int, accessFlags := 26, slot := 0, constantValue := 0 }, { name := "LO_BYTE_SHIFT", type := .int, accessFlags := 26, slot := 1, constantValue := 0 }, { name := "MAX_LENGTH", type := .int, accessFlags := 24, slot := 2, constantValue := 0 }, { name := "$assertionsDisabled", type := .boolean, accessFlags := 4120, slot := 3, constantValue := 0 }]
  methods := #[k16m0, k16m1, k16m2, k16m3]
  instanceTypes := #[]
  staticTypes := #[.int, .int, .int, .boolean]
  resolved := Array.replicate 635 none
  statics := none }

def pool17 : Array CpInfo := pool [(2, .class_ 4), (1, u "java/lang/Object"), (0, u "<init>"), (0, u "()V"), (17, .class_ 26), (1, u "jdk/internal/util/Preconditions"), (28, .class_ 56), (0, u "jdk/internal/util/Preconditions$4"), (57, .class_ 115), (0, u "jdk/internal/util/Preconditions$1"), (7, u "SIOOBE_FORMATTER"), (0, u "Ljava/util/function/BiFunction;"), (0, .class_ 126), (0, u "jdk/internal/util/Preconditions$2"), (3, u "AIOOBE_FORMATTER"), (0, .class_ 132), (0, u "jdk/internal/util/Preconditions$3"), (3, u "IOOBE_FORMATTER")] 57

def k17m0 : Method := { name := "<init>", desc := "()V", sig := { parameters := [], returnType := none }, accessFlags := 1, code := none }
/-- jdk/internal/util/Preconditions -/
def k17 : Class := { plain "jdk/internal/util/Preconditions" (some 0) with
  accessFlags := 33
  interfaces := #[]
  cf := some (fileOf pool17 24 #[.nestMembers #[55, 131, 125, 114]] #[{ accessFlags := 1, nameIndex := 5, descriptorIndex := 6, attributes := #[] }] 33 2 #[] #[{ accessFlags := 25, nameIndex := 123, descriptorIndex := 124, attributes := #[] }, { accessFlags := 25, nameIndex := 130, descriptorIndex := 124, attributes := #[] }, { accessFlags := 25, nameIndex := 136, descriptorIndex := 124, attributes := #[] }])
  fields := #[{ name := "SIOOBE_FORMATTER", type := (.object "java/util/function/BiFunction"), accessFlags := 25, slot := 0, constantValue := 0 }, { name := "AIOOBE_FORMATTER", type := (.object "java/util/function/BiFunction"), accessFlags := 25, slot := 1, constantValue := 0 }, { name := "IOOBE_FORMATTER", type := (.object "java/util/function/BiFunction"), accessFlags := 25, slot := 2, constantValue := 0 }]
  methods := #[k17m0]
  instanceTypes := #[]
  staticTypes := #[(.object "java/util/function/BiFunction"), (.object "java/util/function/BiFunction"), (.object "java/util/function/BiFunction")]
  resolved := Array.replicate 194 none
  statics := some 2 }

def pool18 : Array CpInfo := pool [(9, u "<init>"), (6, .class_ 18), (1, u "java/lang/Object"), (0, u "()V"), (1, .class_ 23), (1, u "jdk/internal/util/ArraysSupport"), (0, u "LOG2_ARRAY_LONG_INDEX_SCALE"), (0, u "I"), (2, u "U"), (0, u "Ljdk/internal/misc/Unsafe;"), (8, u "BIG_ENDIAN"), (0, u "Z"), (8, u "LOG2_BYTE_BIT_SIZE"), (4, u "LOG2_ARRAY_INT_INDEX_SCALE"), (54, u "JLA"), (0, u "Ljdk/internal/access/JavaLangAccess;"), (11, u "LOG2_ARRAY_BOOLEAN_INDEX_SCALE"), (9, u "LOG2_ARRAY_BYTE_INDEX_SCALE"), (5, u "LOG2_ARRAY_CHAR_INDEX_SCALE"), (5, u "LOG2_ARRAY_SHORT_INDEX_SCALE"), (18, u "LOG2_ARRAY_FLOAT_INDEX_SCALE"), (24, u "LOG2_ARRAY_DOUBLE_INDEX_SCALE"), (89, u "T_BOOLEAN"), (2, u "T_CHAR"), (1, u "T_FLOAT"), (1, u "T_DOUBLE"), (1, u "T_BYTE"), (1, u "T_SHORT"), (1, u "T_INT"), (1, u "T_LONG"), (1, u "SOFT_MAX_ARRAY_LENGTH")] 83

def k18m0 : Method := { name := "<init>", desc := "()V", sig := { parameters := [], returnType := none }, accessFlags := 2, code := none }
/-- jdk/internal/util/ArraysSupport -/
def k18 : Class := { plain "jdk/internal/util/ArraysSupport" (some 0) with
  accessFlags := 33
  interfaces := #[]
  cf := some (fileOf pool18 21 #[] #[{ accessFlags := 2, nameIndex := 9, descriptorIndex := 19, attributes := #[] }] 33 16 #[] #[{ accessFlags := 24, nameIndex := 28, descriptorIndex := 29, attributes := #[] }, { accessFlags := 26, nameIndex := 38, descriptorIndex := 39, attributes := #[] }, { accessFlags := 25, nameIndex := 121, descriptorIndex := 25, attributes := #[] }, { accessFlags := 25, nameIndex := 131, descriptorIndex := 25, attributes := #[] }, { accessFlags := 25, nameIndex := 137, descriptorIndex := 25, attributes := #[] }, { accessFlags := 25, nameIndex := 143, descriptorIndex := 25, attributes := #[] }, { accessFlags := 25, nameIndex := 53, descriptorIndex := 25, attributes := #[] }, { accessFlags := 25, nameIndex := 24, descriptorIndex := 25, attributes := #[] }, { accessFlags := 25, nameIndex := 162, descriptorIndex := 25, attributes := #[] }, { accessFlags := 25, nameIndex := 187, descriptorIndex := 25, attributes := #[] }, { accessFlags := 26, nameIndex := 48, descriptorIndex := 25, attributes := #[] }, { accessFlags := 25, nameIndex := 277, descriptorIndex := 25, attributes := #[] }, { accessFlags := 25, nameIndex := 280, descriptorIndex := 25, attributes := #[] }, { accessFlags := 25, nameIndex := 282, descriptorIndex := 25, attributes := #[] }, { accessFlags := 25, nameIndex := 284, descriptorIndex := 25, attributes := #[] }, { accessFlags := 25, nameIndex := 286, descriptorIndex := 25, attributes := #[] }, { accessFlags := 25, nameIndex := 288, descriptorIndex := 25, attributes := #[] }, { accessFlags := 25, nameIndex := 290, descriptorIndex := 25, attributes := #[] }, { accessFlags := 25, nameIndex := 292, descriptorIndex := 25, attributes := #[] }, { accessFlags := 26, nameIndex := 108, descriptorIndex := 109, attributes := #[] }, { accessFlags := 25, nameIndex := 294, descriptorIndex := 25, attributes := #[] }])
  fields := #[{ name := "U", type := (.object "jdk/internal/misc/Unsafe"), accessFlags := 24, slot := 0, constantValue := 0 }, { name := "BIG_ENDIAN", type := .boolean, accessFlags := 26, slot := 1, constantValue := 0 }, { name := "LOG2_ARRAY_BOOLEAN_INDEX_SCALE", type := .int, accessFlags := 25, slot := 2, constantValue := 0 }, { name := "LOG2_ARRAY_BYTE_INDEX_SCALE", type := .int, accessFlags := 25, slot := 3, constantValue := 0 }, { name := "LOG2_ARRAY_CHAR_INDEX_SCALE", type := .int, accessFlags := 25, slot := 4, constantValue := 0 }, { name := "LOG2_ARRAY_SHORT_INDEX_SCALE", type := .int, accessFlags := 25, slot := 5, constantValue := 0 }, { name := "LOG2_ARRAY_INT_INDEX_SCALE", type := .int, accessFlags := 25, slot := 6, constantValue := 0 }, { name := "LOG2_ARRAY_LONG_INDEX_SCALE", type := .int, accessFlags := 25, slot := 7, constantValue := 0 }, { name := "LOG2_ARRAY_FLOAT_INDEX_SCALE", type := .int, accessFlags := 25, slot := 8, constantValue := 0 }, { name := "LOG2_ARRAY_DOUBLE_INDEX_SCALE", type := .int, accessFlags := 25, slot := 9, constantValue := 0 }, { name := "LOG2_BYTE_BIT_SIZE", type := .int, accessFlags := 26, slot := 10, constantValue := 0 }, { name := "T_BOOLEAN", type := .int, accessFlags := 25, slot := 11, constantValue := 0 }, { name := "T_CHAR", type := .int, accessFlags := 25, slot := 12, constantValue := 0 }, { name := "T_FLOAT", type := .int, accessFlags := 25, slot := 13, constantValue := 0 }, { name := "T_DOUBLE", type := .int, accessFlags := 25, slot := 14, constantValue := 0 }, { name := "T_BYTE", type := .int, accessFlags := 25, slot := 15, constantValue := 0 }, { name := "T_SHORT", type := .int, accessFlags := 25, slot := 16, constantValue := 0 }, { name := "T_INT", type := .int, accessFlags := 25, slot := 17, constantValue := 0 }, { name := "T_LONG", type := .int, accessFlags := 25, slot := 18, constantValue := 0 }, { name := "JLA", type := (.object "jdk/internal/access/JavaLangAccess"), accessFlags := 26, slot := 19, constantValue := 0 }, { name := "SOFT_MAX_ARRAY_LENGTH", type := .int, accessFlags := 25, slot := 20, constantValue := 0 }]
  methods := #[k18m0]
  instanceTypes := #[]
  staticTypes := #[(.object "jdk/internal/misc/Unsafe"), .boolean, .int, .int, .int, .int, .int, .int, .int, .int, .int, .int, .int, .int, .int, .int, .int, .int, .int, (.object "jdk/internal/access/JavaLangAccess"), .int]
  resolved := Array.replicate 378 none
  statics := none }

/-- the primitive byte -/
def k19 : Class := { plain "byte" none with kind := .primitive 'B', accessFlags := 0x411 }
/-- [B -/
def k20 : Class := { plain "[B" (some 0) with kind := .array 19 .byte, interfaces := #[14, 3], accessFlags := 1041 }

/-- the primitive char -/
def k21 : Class := { plain "char" none with kind := .primitive 'C', accessFlags := 0x411 }
/-- [C -/
def k22 : Class := { plain "[C" (some 0) with kind := .array 21 .char, interfaces := #[14, 3], accessFlags := 1041 }

/-- the primitive int -/
def k23 : Class := { plain "int" none with kind := .primitive 'I', accessFlags := 0x411 }
/-- [I -/
def k24 : Class := { plain "[I" (some 0) with kind := .array 23 .int, interfaces := #[14, 3], accessFlags := 1041 }

def heap : Heap := #[{ cls := 8, slots := #[.long 0, .int 1, .null, .int 0, .null, .int 0, .int 0], vm := .statics 8 },
  { cls := 9, slots := #[.null, .ref 3], vm := .statics 9 },
  { cls := 17, slots := #[.null, .null, .null], vm := .statics 17 },
  { cls := 22, slots := #[.int 65, .int 66, .int 67, .int 68, .int 69, .int 70, .int 71, .int 72, .int 73, .int 74, .int 75, .int 76, .int 77, .int 78, .int 79, .int 80, .int 81, .int 82, .int 83, .int 84, .int 85, .int 86, .int 87, .int 88, .int 89, .int 90, .int 50, .int 51, .int 52, .int 53, .int 54, .int 55], vm := .none },
  { cls := 18, slots := #[], vm := .none }]
def classes : Array Class := #[k0, k1, k2, k3, k4, k5, k6, k7, k8, k9, k10, k11, k12, k13, k14, k15, k16, k17, k18, k19, k20, k21, k22, k23, k24]
def interned : List (Array UInt16 × Addr) := []
def slotsUsed : Nat := 44
def theMethod : MethodId := ⟨1, 1⟩
def args0 : Array Value := #[.long 1234567890, .long 987654321, .int 7]
def aboutOver (below : List Frame) : State where
  vm := { classes := classes, interned := interned.toArray }
  heap := heap
  slotsUsed := slotsUsed
  threads := #[{ frames := .invoking theMethod args0 :: below }]
def below0 : List Frame := [.native { method := ⟨0, 0⟩, args := #[] }]
def about1 : State := aboutOver below0
def p0 : Program := .bare "" "" ""
def e0 : Env := launch0.env 0 0 0
theorem w_frames : about1.frames = Frame.invoking theMethod args0 :: below0 := rfl
set_option maxRecDepth 65536 in
theorem w_args : argsFit about1.vm theMethod args0 = true := by decide +kernel
set_option maxRecDepth 65536 in
theorem w_heap : heapFits about1 = true := by decide +kernel
set_option maxRecDepth 65536 in
theorem w_runnable : about1.curStatus? = some .runnable := by decide +kernel
set_option maxRecDepth 65536 in
theorem w_alone : about1.alone = true := by decide +kernel
set_option maxRecDepth 65536 in
theorem w_named : about1.methodNamed? x = some theMethod := by decide +kernel
set_option maxRecDepth 65536 in
theorem w_hears : about1.hears theMethod below0 = true := by decide +kernel
set_option maxRecDepth 65536 in
theorem w_ripe : about1.ripe theMethod args0 below0 = true := by decide +kernel
theorem w_running : about1.status = .running := rfl
set_option maxRecDepth 65536 in
theorem w_room : about1.hasRoom e0.platform room_1 = true :=
  launch0.hasRoom_least _ room_1 (by decide +kernel) (by decide +kernel) (by decide +kernel) (by decide +kernel) (by decide +kernel) (by decide +kernel)
theorem allAtoms_all (ts : List Jvm.Cond) (a : Array Jvm.Value) (st : Jvm.State) : (allAtoms ts).before a st = ts.all (fun c => c.before a st) := by
  induction ts with
  | nil => rfl
  | cons c t ih =>
    show (Jvm.Cond.and c (allAtoms t)).before a st = _
    rw [Jvm.Cond.before_and, ih, List.all_cons]
def words1 : List Jvm.Cond := Jvm.Cond.code x code maxLocals ret :: tables_1
/-- a 'code' word, met by the world's own term for the bytes: nothing is compared byte by byte -/
theorem code_word {y : MethodName} {bytes : ByteArray} {mx : Nat} {rt : Option FieldType} {a : Array Value} {s : State} {m : MethodId} {meth : Method} {c : Code} (h1 : s.methodNamed? y = some m) (h2 : s.vm.method? m = some meth) (h3 : meth.code = some c) (h4 : c.code = bytes)
    (h5 : (c.maxLocals == mx && c.exceptionTable.isEmpty && decide (c.maxStack ≤ mostOperands) && decide (meth.sig.returnType = rt) && !meth.locks && decide (parseMethodDescriptor y.desc = some meth.sig)) = true) : (Jvm.Cond.code y bytes mx rt).before a s = true := by
  simp only [Bool.and_eq_true, beq_iff_eq, Bool.not_eq_true', decide_eq_true_eq] at h5
  obtain ⟨⟨⟨⟨⟨g1, g2⟩, g3⟩, g4⟩, g5⟩, g6⟩ := h5
  simp [Cond.before, Cond.holds, Cond.value, h1, h2, h3, h4, g1, g2, g3, g4, g5, g6]
def isCode : Jvm.Cond → Bool
  | .code _ _ _ _ => true
  | _ => false
theorem all_split {L : List Jvm.Cond} {P : Jvm.Cond → Bool} (h1 : L.all (fun c => isCode c || P c) = true) (h2 : ∀ c ∈ L.filter isCode, P c = true) : L.all P = true := by
  refine List.all_eq_true.mpr fun c hc => ?_
  have h := List.all_eq_true.mp h1 c hc
  rcases Bool.eq_false_or_eq_true (isCode c) with hi | hi
  · exact h2 c (List.mem_filter.mpr ⟨hc, hi⟩)
  · simpa [hi] using h
set_option maxRecDepth 65536 in
theorem w_c0 : (Jvm.Cond.code x code maxLocals ret).before args0 about1 = true := code_word (m := ⟨1, 1⟩) (meth := k1m1) (c := k1c1) (by decide +kernel) rfl rfl rfl (by decide +kernel)
set_option maxRecDepth 65536 in
theorem w_c1 : (Jvm.Cond.code ({ cls := "com/example/barrault/barrault/io/WarcDigestBase32PinLaw", name := "put", desc := "([BIJI)V" } : Jvm.MethodName) method_3_code (5 : Nat) (Option.none : Option Jvm.ClassFile.FieldType)).before args0 about1 = true := code_word (m := ⟨1, 2⟩) (meth := k1m2) (c := k1c2) (by decide +kernel) rfl rfl rfl (by decide +kernel)
set_option maxRecDepth 65536 in
theorem w_c2 : (Jvm.Cond.code ({ cls := "java/lang/Math", name := "min", desc := "(II)I" } : Jvm.MethodName) jdk_29_method_69_code (2 : Nat) (Option.some Jvm.ClassFile.FieldType.int)).before args0 about1 = true := code_word (m := ⟨2, 2⟩) (meth := k2m2) (c := k2c2) (by decide +kernel) rfl rfl rfl (by decide +kernel)
set_option maxRecDepth 65536 in
theorem w_c3 : (Jvm.Cond.code ({ cls := "java/lang/Math", name := "max", desc := "(II)I" } : Jvm.MethodName) jdk_29_method_65_code (2 : Nat) (Option.some Jvm.ClassFile.FieldType.int)).before args0 about1 = true := code_word (m := ⟨2, 1⟩) (meth := k2m1) (c := k2c1) (by decide +kernel) rfl rfl rfl (by decide +kernel)
set_option maxRecDepth 65536 in
theorem w_c4 : (Jvm.Cond.code ({ cls := "com/example/barrault/barrault/io/WarcDigestBase32PinLaw", name := "keep", desc := "(JI)J" } : Jvm.MethodName) method_4_code (3 : Nat) (Option.some Jvm.ClassFile.FieldType.long)).before args0 about1 = true := code_word (m := ⟨1, 3⟩) (meth := k1m3) (c := k1c3) (by decide +kernel) rfl rfl rfl (by decide +kernel)
set_option maxRecDepth 65536 in
theorem w_c5 : (Jvm.Cond.code ({ cls := "com/example/barrault/barrault/io/WarcDigestBase32PinLaw", name := "fill", desc := "([CIJI)V" } : Jvm.MethodName) method_8_code (5 : Nat) (Option.none : Option Jvm.ClassFile.FieldType)).before args0 about1 = true := code_word (m := ⟨1, 7⟩) (meth := k1m7) (c := k1c7) (by decide +kernel) rfl rfl rfl (by decide +kernel)
set_option maxRecDepth 65536 in
theorem w_c6 : (Jvm.Cond.code ({ cls := "com/example/barrault/barrault/io/WarcDigestBase32PinLaw", name := "enc", desc := "(JII)C" } : Jvm.MethodName) method_7_code (4 : Nat) (Option.some Jvm.ClassFile.FieldType.char)).before args0 about1 = true := code_word (m := ⟨1, 6⟩) (meth := k1m6) (c := k1c6) (by decide +kernel) rfl rfl rfl (by decide +kernel)
set_option maxRecDepth 65536 in
theorem w_c7 : (Jvm.Cond.code ({ cls := "com/example/barrault/barrault/io/WarcDigestBase32PinLaw", name := "sig", desc := "(I)I" } : Jvm.MethodName) method_5_code (1 : Nat) (Option.some Jvm.ClassFile.FieldType.int)).before args0 about1 = true := code_word (m := ⟨1, 4⟩) (meth := k1m4) (c := k1c4) (by decide +kernel) rfl rfl rfl (by decide +kernel)
set_option maxRecDepth 65536 in
theorem w_c8 : (Jvm.Cond.code ({ cls := "com/example/barrault/barrault/io/WarcDigestBase32PinLaw", name := "alpha", desc := "(I)C" } : Jvm.MethodName) method_6_code (1 : Nat) (Option.some Jvm.ClassFile.FieldType.char)).before args0 about1 = true := code_word (m := ⟨1, 5⟩) (meth := k1m5) (c := k1c5) (by decide +kernel) rfl rfl rfl (by decide +kernel)
set_option maxRecDepth 65536 in
theorem w_c9 : (Jvm.Cond.code ({ cls := "com/example/barrault/barrault/io/WarcDigest", name := "base32", desc := "([B)Ljava/lang/String;" } : Jvm.MethodName) prog_23_method_5_code (8 : Nat) (Option.some (Jvm.ClassFile.FieldType.object "java/lang/String"))).before args0 about1 = true := code_word (m := ⟨9, 1⟩) (meth := k9m1) (c := k9c1) (by decide +kernel) rfl rfl rfl (by decide +kernel)
set_option maxRecDepth 65536 in
theorem w_c10 : (Jvm.Cond.code ({ cls := "java/lang/StringBuilder", name := "<init>", desc := "(I)V" } : Jvm.MethodName) jdk_67_method_2_code (2 : Nat) (Option.none : Option Jvm.ClassFile.FieldType)).before args0 about1 = true := code_word (m := ⟨12, 1⟩) (meth := k12m1) (c := k12c1) (by decide +kernel) rfl rfl rfl (by decide +kernel)
set_option maxRecDepth 65536 in
theorem w_c11 : (Jvm.Cond.code ({ cls := "java/lang/AbstractStringBuilder", name := "<init>", desc := "(I)V" } : Jvm.MethodName) jdk_68_method_2_code (2 : Nat) (Option.none : Option Jvm.ClassFile.FieldType)).before args0 about1 = true := code_word (m := ⟨11, 1⟩) (meth := k11m1) (c := k11c1) (by decide +kernel) rfl rfl rfl (by decide +kernel)
set_option maxRecDepth 65536 in
theorem w_c12 : (Jvm.Cond.code ({ cls := "java/lang/Object", name := "<init>", desc := "()V" } : Jvm.MethodName) object_method_1_code (1 : Nat) (Option.none : Option Jvm.ClassFile.FieldType)).before args0 about1 = true := code_word (m := ⟨0, 0⟩) (meth := k0m0) (c := k0c0) (by decide +kernel) rfl rfl rfl (by decide +kernel)
set_option maxRecDepth 65536 in
theorem w_c13 : (Jvm.Cond.code ({ cls := "java/lang/StringBuilder", name := "length", desc := "()I" } : Jvm.MethodName) jdk_67_method_93_code (1 : Nat) (Option.some Jvm.ClassFile.FieldType.int)).before args0 about1 = true := code_word (m := ⟨12, 4⟩) (meth := k12m4) (c := k12c4) (by decide +kernel) rfl rfl rfl (by decide +kernel)
set_option maxRecDepth 65536 in
theorem w_c14 : (Jvm.Cond.code ({ cls := "java/lang/AbstractStringBuilder", name := "length", desc := "()I" } : Jvm.MethodName) jdk_68_method_6_code (1 : Nat) (Option.some Jvm.ClassFile.FieldType.int)).before args0 about1 = true := code_word (m := ⟨11, 2⟩) (meth := k11m2) (c := k11c2) (by decide +kernel) rfl rfl rfl (by decide +kernel)
set_option maxRecDepth 65536 in
theorem w_c15 : (Jvm.Cond.code ({ cls := "java/lang/StringBuilder", name := "toString", desc := "()Ljava/lang/String;" } : Jvm.MethodName) jdk_67_method_42_code (1 : Nat) (Option.some (Jvm.ClassFile.FieldType.object "java/lang/String"))).before args0 about1 = true := code_word (m := ⟨12, 3⟩) (meth := k12m3) (c := k12c3) (by decide +kernel) rfl rfl rfl (by decide +kernel)
set_option maxRecDepth 65536 in
theorem w_c16 : (Jvm.Cond.code ({ cls := "java/lang/String", name := "<init>", desc := "(Ljava/lang/StringBuilder;)V" } : Jvm.MethodName) jdk_42_method_53_code (2 : Nat) (Option.none : Option Jvm.ClassFile.FieldType)).before args0 about1 = true := code_word (m := ⟨8, 2⟩) (meth := k8m2) (c := k8c2) (by decide +kernel) rfl rfl rfl (by decide +kernel)
set_option maxRecDepth 65536 in
theorem w_c17 : (Jvm.Cond.code ({ cls := "java/lang/String", name := "<init>", desc := "(Ljava/lang/AbstractStringBuilder;Ljava/lang/Void;)V" } : Jvm.MethodName) jdk_42_method_150_code (5 : Nat) (Option.none : Option Jvm.ClassFile.FieldType)).before args0 about1 = true := code_word (m := ⟨8, 5⟩) (meth := k8m5) (c := k8c5) (by decide +kernel) rfl rfl rfl (by decide +kernel)
set_option maxRecDepth 65536 in
theorem w_c18 : (Jvm.Cond.code ({ cls := "java/lang/AbstractStringBuilder", name := "getValue", desc := "()[B" } : Jvm.MethodName) jdk_68_method_64_code (1 : Nat) (Option.some (Jvm.ClassFile.FieldType.array Jvm.ClassFile.FieldType.byte))).before args0 about1 = true := code_word (m := ⟨11, 5⟩) (meth := k11m5) (c := k11c5) (by decide +kernel) rfl rfl rfl (by decide +kernel)
set_option maxRecDepth 65536 in
theorem w_c19 : (Jvm.Cond.code ({ cls := "java/lang/AbstractStringBuilder", name := "isLatin1", desc := "()Z" } : Jvm.MethodName) jdk_68_method_68_code (1 : Nat) (Option.some Jvm.ClassFile.FieldType.boolean)).before args0 about1 = true := code_word (m := ⟨11, 6⟩) (meth := k11m6) (c := k11c6) (by decide +kernel) rfl rfl rfl (by decide +kernel)
set_option maxRecDepth 65536 in
theorem w_c20 : (Jvm.Cond.code ({ cls := "java/util/Arrays", name := "copyOfRange", desc := "([BII)[B" } : Jvm.MethodName) jdk_65_method_132_code (3 : Nat) (Option.some (Jvm.ClassFile.FieldType.array Jvm.ClassFile.FieldType.byte))).before args0 about1 = true := code_word (m := ⟨13, 1⟩) (meth := k13m1) (c := k13c1) (by decide +kernel) rfl rfl rfl (by decide +kernel)
set_option maxRecDepth 65536 in
theorem w_c21 : (Jvm.Cond.code ({ cls := "java/lang/String", name := "equals", desc := "(Ljava/lang/Object;)Z" } : Jvm.MethodName) jdk_42_method_66_code (3 : Nat) (Option.some Jvm.ClassFile.FieldType.boolean)).before args0 about1 = true := code_word (m := ⟨8, 3⟩) (meth := k8m3) (c := k8c3) (by decide +kernel) rfl rfl rfl (by decide +kernel)
set_option maxRecDepth 65536 in
theorem w_c22 : (Jvm.Cond.code ({ cls := "java/lang/StringLatin1", name := "equals", desc := "([B[B)Z" } : Jvm.MethodName) jdk_43_method_13_code (3 : Nat) (Option.some Jvm.ClassFile.FieldType.boolean)).before args0 about1 = true := code_word (m := ⟨15, 2⟩) (meth := k15m2) (c := k15c2) (by decide +kernel) rfl rfl rfl (by decide +kernel)
set_option maxRecDepth 65536 in
theorem w_c23 : (Jvm.Cond.code ({ cls := "java/lang/String", name := "<init>", desc := "([C)V" } : Jvm.MethodName) jdk_42_method_3_code (2 : Nat) (Option.none : Option Jvm.ClassFile.FieldType)).before args0 about1 = true := code_word (m := ⟨8, 1⟩) (meth := k8m1) (c := k8c1) (by decide +kernel) rfl rfl rfl (by decide +kernel)
set_option maxRecDepth 65536 in
theorem w_c24 : (Jvm.Cond.code ({ cls := "java/lang/String", name := "<init>", desc := "([CIILjava/lang/Void;)V" } : Jvm.MethodName) jdk_42_method_149_code (6 : Nat) (Option.none : Option Jvm.ClassFile.FieldType)).before args0 about1 = true := code_word (m := ⟨8, 4⟩) (meth := k8m4) (c := k8c4) (by decide +kernel) rfl rfl rfl (by decide +kernel)
set_option maxRecDepth 65536 in
theorem w_c25 : (Jvm.Cond.code ({ cls := "java/lang/StringUTF16", name := "compress", desc := "([CII)[B" } : Jvm.MethodName) jdk_52_method_16_code (6 : Nat) (Option.some (Jvm.ClassFile.FieldType.array Jvm.ClassFile.FieldType.byte))).before args0 about1 = true := code_word (m := ⟨16, 2⟩) (meth := k16m2) (c := k16c2) (by decide +kernel) rfl rfl rfl (by decide +kernel)
set_option maxRecDepth 65536 in
theorem w_c26 : (Jvm.Cond.code ({ cls := "java/lang/StringUTF16", name := "compress", desc := "([CI[BII)I" } : Jvm.MethodName) jdk_52_method_21_code (7 : Nat) (Option.some Jvm.ClassFile.FieldType.int)).before args0 about1 = true := code_word (m := ⟨16, 3⟩) (meth := k16m3) (c := k16c3) (by decide +kernel) rfl rfl rfl (by decide +kernel)
set_option maxRecDepth 65536 in
theorem w_c27 : (Jvm.Cond.code ({ cls := "java/lang/StringUTF16", name := "coderFromArrayLen", desc := "([BI)B" } : Jvm.MethodName) jdk_52_method_15_code (2 : Nat) (Option.some Jvm.ClassFile.FieldType.byte)).before args0 about1 = true := code_word (m := ⟨16, 1⟩) (meth := k16m1) (c := k16c1) (by decide +kernel) rfl rfl rfl (by decide +kernel)
set_option maxRecDepth 65536 in
theorem w_c28 : (Jvm.Cond.code ({ cls := "java/lang/StringBuilder", name := "append", desc := "(C)Ljava/lang/StringBuilder;" } : Jvm.MethodName) jdk_67_method_14_code (2 : Nat) (Option.some (Jvm.ClassFile.FieldType.object "java/lang/StringBuilder"))).before args0 about1 = true := code_word (m := ⟨12, 2⟩) (meth := k12m2) (c := k12c2) (by decide +kernel) rfl rfl rfl (by decide +kernel)
set_option maxRecDepth 65536 in
theorem w_c29 : (Jvm.Cond.code ({ cls := "java/lang/AbstractStringBuilder", name := "append", desc := "(C)Ljava/lang/AbstractStringBuilder;" } : Jvm.MethodName) jdk_68_method_31_code (2 : Nat) (Option.some (Jvm.ClassFile.FieldType.object "java/lang/AbstractStringBuilder"))).before args0 about1 = true := code_word (m := ⟨11, 4⟩) (meth := k11m4) (c := k11c4) (by decide +kernel) rfl rfl rfl (by decide +kernel)
set_option maxRecDepth 65536 in
theorem w_c30 : (Jvm.Cond.code ({ cls := "java/lang/AbstractStringBuilder", name := "ensureCapacityInternal", desc := "(I)V" } : Jvm.MethodName) jdk_68_method_9_code (3 : Nat) (Option.none : Option Jvm.ClassFile.FieldType)).before args0 about1 = true := code_word (m := ⟨11, 3⟩) (meth := k11m3) (c := k11c3) (by decide +kernel) rfl rfl rfl (by decide +kernel)
set_option maxRecDepth 65536 in
theorem w_c31 : (Jvm.Cond.code ({ cls := "java/lang/StringLatin1", name := "canEncode", desc := "(C)Z" } : Jvm.MethodName) jdk_43_method_3_code (1 : Nat) (Option.some Jvm.ClassFile.FieldType.boolean)).before args0 about1 = true := code_word (m := ⟨15, 1⟩) (meth := k15m1) (c := k15c1) (by decide +kernel) rfl rfl rfl (by decide +kernel)
def codes1 : List Jvm.Cond := [Jvm.Cond.code x code maxLocals ret, Jvm.Cond.code ({ cls := "com/example/barrault/barrault/io/WarcDigestBase32PinLaw", name := "put", desc := "([BIJI)V" } : Jvm.MethodName) method_3_code (5 : Nat) (Option.none : Option Jvm.ClassFile.FieldType), Jvm.Cond.code ({ cls := "java/lang/Math", name := "min", desc := "(II)I" } : Jvm.MethodName) jdk_29_method_69_code (2 : Nat) (Option.some Jvm.ClassFile.FieldType.int), Jvm.Cond.code ({ cls := "java/lang/Math", name := "max", desc := "(II)I" } : Jvm.MethodName) jdk_29_method_65_code (2 : Nat) (Option.some Jvm.ClassFile.FieldType.int), Jvm.Cond.code ({ cls := "com/example/barrault/barrault/io/WarcDigestBase32PinLaw", name := "keep", desc := "(JI)J" } : Jvm.MethodName) method_4_code (3 : Nat) (Option.some Jvm.ClassFile.FieldType.long), Jvm.Cond.code ({ cls := "com/example/barrault/barrault/io/WarcDigestBase32PinLaw", name := "fill", desc := "([CIJI)V" } : Jvm.MethodName) method_8_code (5 : Nat) (Option.none : Option Jvm.ClassFile.FieldType), Jvm.Cond.code ({ cls := "com/example/barrault/barrault/io/WarcDigestBase32PinLaw", name := "enc", desc := "(JII)C" } : Jvm.MethodName) method_7_code (4 : Nat) (Option.some Jvm.ClassFile.FieldType.char), Jvm.Cond.code ({ cls := "com/example/barrault/barrault/io/WarcDigestBase32PinLaw", name := "sig", desc := "(I)I" } : Jvm.MethodName) method_5_code (1 : Nat) (Option.some Jvm.ClassFile.FieldType.int), Jvm.Cond.code ({ cls := "com/example/barrault/barrault/io/WarcDigestBase32PinLaw", name := "alpha", desc := "(I)C" } : Jvm.MethodName) method_6_code (1 : Nat) (Option.some Jvm.ClassFile.FieldType.char), Jvm.Cond.code ({ cls := "com/example/barrault/barrault/io/WarcDigest", name := "base32", desc := "([B)Ljava/lang/String;" } : Jvm.MethodName) prog_23_method_5_code (8 : Nat) (Option.some (Jvm.ClassFile.FieldType.object "java/lang/String")), Jvm.Cond.code ({ cls := "java/lang/StringBuilder", name := "<init>", desc := "(I)V" } : Jvm.MethodName) jdk_67_method_2_code (2 : Nat) (Option.none : Option Jvm.ClassFile.FieldType), Jvm.Cond.code ({ cls := "java/lang/AbstractStringBuilder", name := "<init>", desc := "(I)V" } : Jvm.MethodName) jdk_68_method_2_code (2 : Nat) (Option.none : Option Jvm.ClassFile.FieldType), Jvm.Cond.code ({ cls := "java/lang/Object", name := "<init>", desc := "()V" } : Jvm.MethodName) object_method_1_code (1 : Nat) (Option.none : Option Jvm.ClassFile.FieldType), Jvm.Cond.code ({ cls := "java/lang/StringBuilder", name := "length", desc := "()I" } : Jvm.MethodName) jdk_67_method_93_code (1 : Nat) (Option.some Jvm.ClassFile.FieldType.int), Jvm.Cond.code ({ cls := "java/lang/AbstractStringBuilder", name := "length", desc := "()I" } : Jvm.MethodName) jdk_68_method_6_code (1 : Nat) (Option.some Jvm.ClassFile.FieldType.int), Jvm.Cond.code ({ cls := "java/lang/StringBuilder", name := "toString", desc := "()Ljava/lang/String;" } : Jvm.MethodName) jdk_67_method_42_code (1 : Nat) (Option.some (Jvm.ClassFile.FieldType.object "java/lang/String")), Jvm.Cond.code ({ cls := "java/lang/String", name := "<init>", desc := "(Ljava/lang/StringBuilder;)V" } : Jvm.MethodName) jdk_42_method_53_code (2 : Nat) (Option.none : Option Jvm.ClassFile.FieldType), Jvm.Cond.code ({ cls := "java/lang/String", name := "<init>", desc := "(Ljava/lang/AbstractStringBuilder;Ljava/lang/Void;)V" } : Jvm.MethodName) jdk_42_method_150_code (5 : Nat) (Option.none : Option Jvm.ClassFile.FieldType), Jvm.Cond.code ({ cls := "java/lang/AbstractStringBuilder", name := "getValue", desc := "()[B" } : Jvm.MethodName) jdk_68_method_64_code (1 : Nat) (Option.some (Jvm.ClassFile.FieldType.array Jvm.ClassFile.FieldType.byte)), Jvm.Cond.code ({ cls := "java/lang/AbstractStringBuilder", name := "isLatin1", desc := "()Z" } : Jvm.MethodName) jdk_68_method_68_code (1 : Nat) (Option.some Jvm.ClassFile.FieldType.boolean), Jvm.Cond.code ({ cls := "java/util/Arrays", name := "copyOfRange", desc := "([BII)[B" } : Jvm.MethodName) jdk_65_method_132_code (3 : Nat) (Option.some (Jvm.ClassFile.FieldType.array Jvm.ClassFile.FieldType.byte)), Jvm.Cond.code ({ cls := "java/lang/String", name := "equals", desc := "(Ljava/lang/Object;)Z" } : Jvm.MethodName) jdk_42_method_66_code (3 : Nat) (Option.some Jvm.ClassFile.FieldType.boolean), Jvm.Cond.code ({ cls := "java/lang/StringLatin1", name := "equals", desc := "([B[B)Z" } : Jvm.MethodName) jdk_43_method_13_code (3 : Nat) (Option.some Jvm.ClassFile.FieldType.boolean), Jvm.Cond.code ({ cls := "java/lang/String", name := "<init>", desc := "([C)V" } : Jvm.MethodName) jdk_42_method_3_code (2 : Nat) (Option.none : Option Jvm.ClassFile.FieldType), Jvm.Cond.code ({ cls := "java/lang/String", name := "<init>", desc := "([CIILjava/lang/Void;)V" } : Jvm.MethodName) jdk_42_method_149_code (6 : Nat) (Option.none : Option Jvm.ClassFile.FieldType), Jvm.Cond.code ({ cls := "java/lang/StringUTF16", name := "compress", desc := "([CII)[B" } : Jvm.MethodName) jdk_52_method_16_code (6 : Nat) (Option.some (Jvm.ClassFile.FieldType.array Jvm.ClassFile.FieldType.byte)), Jvm.Cond.code ({ cls := "java/lang/StringUTF16", name := "compress", desc := "([CI[BII)I" } : Jvm.MethodName) jdk_52_method_21_code (7 : Nat) (Option.some Jvm.ClassFile.FieldType.int), Jvm.Cond.code ({ cls := "java/lang/StringUTF16", name := "coderFromArrayLen", desc := "([BI)B" } : Jvm.MethodName) jdk_52_method_15_code (2 : Nat) (Option.some Jvm.ClassFile.FieldType.byte), Jvm.Cond.code ({ cls := "java/lang/StringBuilder", name := "append", desc := "(C)Ljava/lang/StringBuilder;" } : Jvm.MethodName) jdk_67_method_14_code (2 : Nat) (Option.some (Jvm.ClassFile.FieldType.object "java/lang/StringBuilder")), Jvm.Cond.code ({ cls := "java/lang/AbstractStringBuilder", name := "append", desc := "(C)Ljava/lang/AbstractStringBuilder;" } : Jvm.MethodName) jdk_68_method_31_code (2 : Nat) (Option.some (Jvm.ClassFile.FieldType.object "java/lang/AbstractStringBuilder")), Jvm.Cond.code ({ cls := "java/lang/AbstractStringBuilder", name := "ensureCapacityInternal", desc := "(I)V" } : Jvm.MethodName) jdk_68_method_9_code (3 : Nat) (Option.none : Option Jvm.ClassFile.FieldType), Jvm.Cond.code ({ cls := "java/lang/StringLatin1", name := "canEncode", desc := "(C)Z" } : Jvm.MethodName) jdk_43_method_3_code (1 : Nat) (Option.some Jvm.ClassFile.FieldType.boolean)]
set_option maxRecDepth 65536 in
theorem codes_eq : words1.filter isCode = codes1 := rfl
theorem w_codes : ∀ c ∈ words1.filter isCode, c.before args0 about1 = true := by
  rw [codes_eq]
  intro c hc
  simp only [codes1, List.mem_cons, List.not_mem_nil, or_false] at hc
  rcases hc with rfl | rfl | rfl | rfl | rfl | rfl | rfl | rfl | rfl | rfl | rfl | rfl | rfl | rfl | rfl | rfl | rfl | rfl | rfl | rfl | rfl | rfl | rfl | rfl | rfl | rfl | rfl | rfl | rfl | rfl | rfl | rfl
  · exact w_c0
  · exact w_c1
  · exact w_c2
  · exact w_c3
  · exact w_c4
  · exact w_c5
  · exact w_c6
  · exact w_c7
  · exact w_c8
  · exact w_c9
  · exact w_c10
  · exact w_c11
  · exact w_c12
  · exact w_c13
  · exact w_c14
  · exact w_c15
  · exact w_c16
  · exact w_c17
  · exact w_c18
  · exact w_c19
  · exact w_c20
  · exact w_c21
  · exact w_c22
  · exact w_c23
  · exact w_c24
  · exact w_c25
  · exact w_c26
  · exact w_c27
  · exact w_c28
  · exact w_c29
  · exact w_c30
  · exact w_c31
set_option maxRecDepth 65536 in
theorem w_t1 : (words1.take 24).all (fun c => isCode c || c.before args0 about1) = true := by decide +kernel
set_option maxRecDepth 65536 in
theorem w_t2 : ((words1.drop 24).take 24).all (fun c => isCode c || c.before args0 about1) = true := by decide +kernel
set_option maxRecDepth 65536 in
theorem w_t3 : (((words1.drop 24).drop 24).take 24).all (fun c => isCode c || c.before args0 about1) = true := by decide +kernel
set_option maxRecDepth 65536 in
theorem w_t4 : ((((words1.drop 24).drop 24).drop 24).take 24).all (fun c => isCode c || c.before args0 about1) = true := by decide +kernel
set_option maxRecDepth 65536 in
theorem w_t5 : (((((words1.drop 24).drop 24).drop 24).drop 24).take 24).all (fun c => isCode c || c.before args0 about1) = true := by decide +kernel
set_option maxRecDepth 65536 in
theorem w_t6 : ((((((words1.drop 24).drop 24).drop 24).drop 24).drop 24).take 24).all (fun c => isCode c || c.before args0 about1) = true := by decide +kernel
set_option maxRecDepth 65536 in
theorem w_t7 : ((((((words1.drop 24).drop 24).drop 24).drop 24).drop 24).drop 24).all (fun c => isCode c || c.before args0 about1) = true := by decide +kernel
theorem w_tables : (allAtoms (Jvm.Cond.code x code maxLocals ret :: tables_1)).before args0 about1 = true := by
  rw [allAtoms_all]
  show words1.all (fun c => c.before args0 about1) = true
  refine all_split ?_ w_codes
  rw [← List.take_append_drop 24 words1, List.all_append, w_t1, ← List.take_append_drop 24 (words1.drop 24), List.all_append, w_t2, ← List.take_append_drop 24 ((words1.drop 24).drop 24), List.all_append, w_t3, ← List.take_append_drop 24 (((words1.drop 24).drop 24).drop 24), List.all_append, w_t4, ← List.take_append_drop 24 ((((words1.drop 24).drop 24).drop 24).drop 24), List.all_append, w_t5, ← List.take_append_drop 24 (((((words1.drop 24).drop 24).drop 24).drop 24).drop 24), List.all_append, w_t6, w_t7]
  rfl
set_option maxRecDepth 65536 in
theorem w_rest : rest_1_c.before args0 about1 = true := by decide +kernel
set_option maxRecDepth 65536 in
theorem w_case : (Jvm.Cond.and given_1 narrow_1).before args0 about1 = true := by decide +kernel
set_option maxRecDepth 65536 in
theorem w_consts : constsHeld consts_1 about1 := Jvm.Lit.constsHeldB_iff.mp (by decide +kernel)
theorem w_applies : (headSpec (Jvm.Cond.code x code maxLocals ret :: tables_1) room_1).applies x e0.platform about1 = true :=
  (Spec.applies_iff w_frames).mpr ⟨w_running, w_runnable, w_alone, w_named, w_hears, w_ripe, w_room, w_tables⟩
theorem atStart : AtStart classFile x code maxLocals ret World_1 tables_1 room_1 Calls_1 rest_1 Pre_1 launch0 p0 e0 about1 theMethod args0 below0 :=
  ⟨lists_1, trivial, launch0.admits_env _ _ _, launch0.least_env, fairChoices_fair.cas, fairChoices_fair.clock, w_frames, w_args, w_heap, w_applies, ⟨w_consts, trivial⟩, w_rest, w_case⟩
end start1
theorem witness_1 : WitnessClaimed_1 := ⟨start1.p0, start1.e0, start1.about1, start1.theMethod, start1.args0, start1.below0, start1.atStart⟩
end Jvm.Pilot.@@N@@
