import JvmDerived
import JvmDerived.Pilot.@@N@@Statement
import JvmDerived.Pilot.@@N@@Code
set_option linter.unusedVariables false
set_option linter.unusedSimpArgs false
namespace Jvm.RoadKit
open Sem ClassFile Op Lib Jvm.Stand Jvm.Free Jvm.LawKit
section Own
variable {p : Program} {l : Launch} {e : Env} {R : Room} {s : State} {m : MethodId} {args : Array Value} {below : List Frame} {meth : Method} {c : Code} {T : State} {locs : List Loc} {cells slots : Nat} {Z : State} {a0 : Array Value} {h : Heap}
/-- from T with the frame g on top the run comes back with what Q says -/
def Go (p : Program) (e : Env) (below : List Frame) (Fin' : Outcome → State → Prop) (T : State) (g : JFrame) : Prop :=
  ∃ s₂ o, Steps p.tables e below (T.setTop g) s₂ ∧ s₂.status = .running ∧ Ended s₂ below o ∧ Fin' o s₂
/-- how a body ends -/
def Fn (s : State) (RC RS : Nat) (Q : Option Value → Heap → List Loc → Prop) (o : Outcome) (t : State) : Prop := ∃ v L, o = .returned v ∧ Q v t.heap L ∧ FrameEnd s o t L RC RS
/-- what stands fast through a body's walk -/
def Cx (p : Program) (s : State) (m : MethodId) (meth : Method) (c : Code) (Z : State) (own nm : String) (bytes : ByteArray) (maxL : Nat) (ret : Option FieldType) : Prop :=
  p.tables.exec = Jvm.exec ∧ Z.Warmed39 s.vm ∧ s.vm.findClass own = some m.cls ∧ c.code = bytes ∧ c.maxLocals = maxL ∧ meth.sig.returnType = ret ∧ meth.name = nm ∧ meth.locks = false
variable {RC RS : Nat} {Q : Option Value → Heap → List Loc → Prop} {Fin' : Outcome → State → Prop} {own nm : String} {bytes : ByteArray} {maxL : Nat} {ret : Option FieldType} {pc pc' : Nat} {Ls Ls' : Array Slot} {S : List Value}
theorem Go.via {T' : State} {g g' : JFrame} (G : Go p e below Fin' T' g') (k : ∀ t, Steps p.tables e below (T'.setTop g') t → Steps p.tables e below (T.setTop g) t) : Go p e below Fin' T g := by
  obtain ⟨s₂, o, st, r⟩ := G; exact ⟨s₂, o, k _ st, r⟩
theorem Go.cast {g g' : JFrame} (q : g = g') (G : Go p e below Fin' T g') : Go p e below Fin' T g := q ▸ G
/-- a body's contract -/
def Met1 (l : Launch) (Z : State) (y : MethodName) (bytes : ByteArray) (maxL : Nat) (ret : Option FieldType) (rm : Room) (as' : Array Value) (h0 : Heap) (Q : Option Value → Heap → List Loc → Prop) : Prop :=
  ∀ ws : List Jvm.Cond, MetFree l y (head1 (Jvm.Cond.code y bytes maxL ret :: ws) rm) (fun a U => a = as' ∧ Z.Warmed39 U.vm ∧ U.heap = h0) (fun _ _ _ _ _ => True) (fun _ U o U' => ∃ v L, o = .returned v ∧ Q v U'.heap L ∧ FrameEnd U o U' L rm.cells rm.slots)
theorem Met1.of_body {y : MethodName} {rm : Room} {as' : Array Value} {h0 : Heap} (hp : plainFor y = true) (ef : ∀ m, entryFrame m as' maxL = mkF m 0 Ls [])
    (body : ∀ {p : Program} {e : Env} {s : State} {m : MethodId} {below : List Frame} {meth : Method} {c : Code} {T : State}, Cx p s m meth c Z y.cls y.name bytes maxL ret → Stand p l e rm s m as' below meth c T [] 0 0 → T.heap = h0 → Go p e below (Fn s rm.cells rm.slots Q) T (mkF m 0 Ls [])) :
    Met1 l Z y bytes maxL ret rm as' h0 Q := by
  intro ws
  refine MetFree.of_bodySF hp hisR ?_
  intro p e s m args below meth c s₁ Bd hml0 hP hK
  obtain ⟨rfl, hZ, hh⟩ := hP
  have X0 : Stand p l e rm s m args below meth c s₁ [] 0 0 := Stand.of_body Bd
  have hlk : meth.locks = false := BodyLoose.notSynchronized Bd
  obtain ⟨s₂, o, st, r1, r2, r3⟩ := body (p := p) (e := e) (s := s) (m := m) (below := below) (meth := meth) (c := c) (T := s₁) ⟨Bd.exec, hZ, findClass_of_methodNamed Bd.named, Bd.bytes, hml0, Bd.returns, (name_of_methodNamed Bd.named Bd.method).1, hlk⟩ X0 (by rw [← hh, Bd.state]; rfl)
  exact ⟨s₂, o, castTop (ef m) st, r1, r2, r3⟩
/-- a contract may say less -/
theorem Met1.weak {y : MethodName} {rm : Room} {as' : Array Value} {h0 : Heap} {Q' : Option Value → Heap → List Loc → Prop} (M : Met1 l Z y bytes maxL ret rm as' h0 Q) (q : ∀ v h L, Q v h L → Q' v h L) : Met1 l Z y bytes maxL ret rm as' h0 Q' := by
  intro ws p e ha hc hk s m args below hf happ hP hK
  obtain ⟨n, o, h1, h2, h3, v, L, h4, h5, h6⟩ := M ws p e ha hc hk s m args below hf happ hP hK
  exact ⟨n, o, h1, h2, h3, v, L, h4, q _ _ _ h5, h6⟩

/-! plain steps -/
theorem Go.aloadN (C : Cx p s m meth c Z own nm bytes maxL ret) (X : Stand p l e R s m args below meth c T locs cells slots) {k : Fin 4} {v : Value} (hd : decode bytes pc = .ok (.aload_n k, 1)) (hl : Ls[k.val]? = some (.val v)) (hv : v.isRef = true) (hp : pc + 1 = pc') (G : Go p e below Fin' T (mkF m pc' Ls (v :: S))) : Go p e below Fin' T (mkF m pc Ls S) := by
  subst hp; exact G.via fun _ k => XS.aloadN X.here C.1 rfl (hb C.2.2.2.1 hd) hl hv k
theorem Go.aload (C : Cx p s m meth c Z own nm bytes maxL ret) (X : Stand p l e R s m args below meth c T locs cells slots) {k : Nat} {v : Value} (hd : decode bytes pc = .ok (.aload k, 2)) (hl : Ls[k]? = some (.val v)) (hv : v.isRef = true) (hp : pc + 2 = pc') (G : Go p e below Fin' T (mkF m pc' Ls (v :: S))) : Go p e below Fin' T (mkF m pc Ls S) := by
  subst hp; exact G.via fun _ k => XS.aload X.here C.1 rfl (hb C.2.2.2.1 hd) hl hv k
theorem Go.iloadN (C : Cx p s m meth c Z own nm bytes maxL ret) (X : Stand p l e R s m args below meth c T locs cells slots) {k : Fin 4} {v : Int32} (hd : decode bytes pc = .ok (.iload_n k, 1)) (hl : Ls[k.val]? = some (.val (.int v))) (hp : pc + 1 = pc') (G : Go p e below Fin' T (mkF m pc' Ls (.int v :: S))) : Go p e below Fin' T (mkF m pc Ls S) := by
  subst hp; exact G.via fun _ k => XS.iloadN X.here C.1 rfl (hb C.2.2.2.1 hd) hl k
theorem Go.iload (C : Cx p s m meth c Z own nm bytes maxL ret) (X : Stand p l e R s m args below meth c T locs cells slots) {k : Nat} {v : Int32} (hd : decode bytes pc = .ok (.iload k, 2)) (hl : Ls[k]? = some (.val (.int v))) (hp : pc + 2 = pc') (G : Go p e below Fin' T (mkF m pc' Ls (.int v :: S))) : Go p e below Fin' T (mkF m pc Ls S) := by
  subst hp; exact G.via fun _ k => XS.iload X.here C.1 rfl (hb C.2.2.2.1 hd) hl k
theorem Go.istore (C : Cx p s m meth c Z own nm bytes maxL ret) (X : Stand p l e R s m args below meth c T locs cells slots) {k : Nat} {v : Int32} (hd : decode bytes pc = .ok (.istore k, 2)) (hl : storeLocals Ls k (.int v) = some Ls') (hp : pc + 2 = pc') (G : Go p e below Fin' T (mkF m pc' Ls' S)) : Go p e below Fin' T (mkF m pc Ls (.int v :: S)) := by
  subst hp; exact G.via fun _ k => XS.istore X.here C.1 rfl (hb C.2.2.2.1 hd) rfl hl k
theorem Go.lload (C : Cx p s m meth c Z own nm bytes maxL ret) (X : Stand p l e R s m args below meth c T locs cells slots) {k : Nat} {v : Int64} (hd : decode bytes pc = .ok (.lload k, 2)) (hl : Ls[k]? = some (.val (.long v))) (hp : pc + 2 = pc') (G : Go p e below Fin' T (mkF m pc' Ls (.long v :: S))) : Go p e below Fin' T (mkF m pc Ls S) := by
  subst hp; exact G.via fun _ k => XS.lload X.here C.1 rfl (hb C.2.2.2.1 hd) hl k
theorem Go.lstore (C : Cx p s m meth c Z own nm bytes maxL ret) (X : Stand p l e R s m args below meth c T locs cells slots) {k : Nat} {v : Int64} (hd : decode bytes pc = .ok (.lstore k, 2)) (hl : storeLocals Ls k (.long v) = some Ls') (hp : pc + 2 = pc') (G : Go p e below Fin' T (mkF m pc' Ls' S)) : Go p e below Fin' T (mkF m pc Ls (.long v :: S)) := by
  subst hp; exact G.via fun _ k => XS.lstore X.here C.1 rfl (hb C.2.2.2.1 hd) rfl hl k
theorem Go.astore (C : Cx p s m meth c Z own nm bytes maxL ret) (X : Stand p l e R s m args below meth c T locs cells slots) {k : Nat} {v : Value} (hd : decode bytes pc = .ok (.astore k, 2)) (hv : v.isRef = true) (hl : storeLocals Ls k v = some Ls') (hp : pc + 2 = pc') (G : Go p e below Fin' T (mkF m pc' Ls' S)) : Go p e below Fin' T (mkF m pc Ls (v :: S)) := by
  subst hp; exact G.via fun _ k => XS.astore X.here C.1 rfl (hb C.2.2.2.1 hd) rfl hv hl k
theorem Go.iconst (C : Cx p s m meth c Z own nm bytes maxL ret) (X : Stand p l e R s m args below meth c T locs cells slots) {i : Int} {z : Int32} (hd : decode bytes pc = .ok (.iconst i, 1)) (hz : Int32.ofInt i = z) (hp : pc + 1 = pc') (G : Go p e below Fin' T (mkF m pc' Ls (.int z :: S))) : Go p e below Fin' T (mkF m pc Ls S) := by
  subst hp; exact G.via fun _ k => XT.iconstV X.here C.1 rfl z (hb C.2.2.2.1 hd) hz k
theorem Go.bipush (C : Cx p s m meth c Z own nm bytes maxL ret) (X : Stand p l e R s m args below meth c T locs cells slots) {i : Int} {z : Int32} (hd : decode bytes pc = .ok (.bipush i, 2)) (hz : (Int8.ofInt i).toInt32 = z) (hp : pc + 2 = pc') (G : Go p e below Fin' T (mkF m pc' Ls (.int z :: S))) : Go p e below Fin' T (mkF m pc Ls S) := by
  subst hp; exact G.via fun _ k => XT.bipushV X.here C.1 rfl z (hb C.2.2.2.1 hd) hz k
theorem Go.lconst (C : Cx p s m meth c Z own nm bytes maxL ret) (X : Stand p l e R s m args below meth c T locs cells slots) {i : Fin 2} {z : Int64} (hd : decode bytes pc = .ok (.lconst i, 1)) (hz : Int64.ofNat i = z) (hp : pc + 1 = pc') (G : Go p e below Fin' T (mkF m pc' Ls (.long z :: S))) : Go p e below Fin' T (mkF m pc Ls S) := by
  subst hp; exact G.via fun _ k => XT.lconstV X.here C.1 rfl z (hb C.2.2.2.1 hd) hz k
theorem Go.ldcI (C : Cx p s m meth c Z own nm bytes maxL ret) (X : Stand p l e R s m args below meth c T locs cells slots) {i : Nat} {z : Int32} (hd : decode bytes pc = .ok (.ldc i, 2)) (w : (Cond.constant own i z).before a0 Z = true) (hp : pc + 2 = pc') (G : Go p e below Fin' T (mkF m pc' Ls (.int z :: S))) : Go p e below Fin' T (mkF m pc Ls S) := by
  subst hp; exact G.via fun _ k => X.ldcI C.1 C.2.2.1 (mvT C.2.1 w) rfl (hb C.2.2.2.1 hd) k
theorem Go.ladd (C : Cx p s m meth c Z own nm bytes maxL ret) (X : Stand p l e R s m args below meth c T locs cells slots) {x y : Int64} (hd : decode bytes pc = .ok (.ladd, 1))  (hp : pc + 1 = pc') (G : Go p e below Fin' T (mkF m pc' Ls (.long (x + y) :: S))) : Go p e below Fin' T (mkF m pc Ls (.long y :: .long x :: S)) := by
  subst hp; exact G.via fun _ k => XS.ladd X.here C.1 rfl (hb C.2.2.2.1 hd) rfl k
theorem Go.lmul (C : Cx p s m meth c Z own nm bytes maxL ret) (X : Stand p l e R s m args below meth c T locs cells slots) {x y : Int64} (hd : decode bytes pc = .ok (.lmul, 1))  (hp : pc + 1 = pc') (G : Go p e below Fin' T (mkF m pc' Ls (.long (x * y) :: S))) : Go p e below Fin' T (mkF m pc Ls (.long y :: .long x :: S)) := by
  subst hp; exact G.via fun _ k => XS.lmul X.here C.1 rfl (hb C.2.2.2.1 hd) rfl k
theorem Go.iand (C : Cx p s m meth c Z own nm bytes maxL ret) (X : Stand p l e R s m args below meth c T locs cells slots) {x y : Int32} (hd : decode bytes pc = .ok (.iand, 1))  (hp : pc + 1 = pc') (G : Go p e below Fin' T (mkF m pc' Ls (.int (x &&& y) :: S))) : Go p e below Fin' T (mkF m pc Ls (.int y :: .int x :: S)) := by
  subst hp; exact G.via fun _ k => XS.iand X.here C.1 rfl (hb C.2.2.2.1 hd) rfl k
theorem Go.ishr (C : Cx p s m meth c Z own nm bytes maxL ret) (X : Stand p l e R s m args below meth c T locs cells slots) {x y : Int32} (hd : decode bytes pc = .ok (.ishr, 1))  (hp : pc + 1 = pc') (G : Go p e below Fin' T (mkF m pc' Ls (.int (x >>> (y &&& 31)) :: S))) : Go p e below Fin' T (mkF m pc Ls (.int y :: .int x :: S)) := by
  subst hp; exact G.via fun _ k => XS.ishr X.here C.1 rfl (hb C.2.2.2.1 hd) rfl k
theorem Go.lshl (C : Cx p s m meth c Z own nm bytes maxL ret) (X : Stand p l e R s m args below meth c T locs cells slots) {x : Int64} {y : Int32} (hd : decode bytes pc = .ok (.lshl, 1))  (hp : pc + 1 = pc') (G : Go p e below Fin' T (mkF m pc' Ls (.long (x <<< (y &&& 0x3f).toInt64) :: S))) : Go p e below Fin' T (mkF m pc Ls (.int y :: .long x :: S)) := by
  subst hp; exact G.via fun _ k => XS.lshl X.here C.1 rfl (hb C.2.2.2.1 hd) rfl k
theorem Go.i2l (C : Cx p s m meth c Z own nm bytes maxL ret) (X : Stand p l e R s m args below meth c T locs cells slots) {x : Int32} (hd : decode bytes pc = .ok (.i2l, 1))  (hp : pc + 1 = pc') (G : Go p e below Fin' T (mkF m pc' Ls (.long (x.toInt64) :: S))) : Go p e below Fin' T (mkF m pc Ls (.int x :: S)) := by
  subst hp; exact G.via fun _ k => XS.i2l X.here C.1 rfl (hb C.2.2.2.1 hd) rfl k
theorem Go.lcmp (C : Cx p s m meth c Z own nm bytes maxL ret) (X : Stand p l e R s m args below meth c T locs cells slots) {x y : Int64} (hd : decode bytes pc = .ok (.lcmp, 1))  (hp : pc + 1 = pc') (G : Go p e below Fin' T (mkF m pc' Ls (.int (lcmpW x y) :: S))) : Go p e below Fin' T (mkF m pc Ls (.long y :: .long x :: S)) := by
  subst hp; exact G.via fun _ k => XS.lcmp X.here C.1 rfl (hb C.2.2.2.1 hd) rfl k
theorem Go.dup (C : Cx p s m meth c Z own nm bytes maxL ret) (X : Stand p l e R s m args below meth c T locs cells slots) {v : Value} (hd : decode bytes pc = .ok (.dup, 1)) (hc : v.category = 1) (hp : pc + 1 = pc') (G : Go p e below Fin' T (mkF m pc' Ls (v :: v :: S))) : Go p e below Fin' T (mkF m pc Ls (v :: S)) := by
  subst hp; exact G.via fun _ k => XS.dup X.here C.1 rfl (hb C.2.2.2.1 hd) rfl hc k
theorem Go.goto (C : Cx p s m meth c Z own nm bytes maxL ret) (X : Stand p l e R s m args below meth c T locs cells slots)  {o : Int} (hd : decode bytes pc = .ok (.goto o, 3))  (ho : 0 ≤ (pc : Int) + o) (hp : ((pc : Int) + o).toNat = pc') (G : Go p e below Fin' T (mkF m pc' Ls S)) : Go p e below Fin' T (mkF m pc Ls S) :=
  G.via fun _ k => XS.goto X.here C.1 rfl rfl (hb C.2.2.2.1 hd) ho hp k
theorem Go.ifYes (C : Cx p s m meth c Z own nm bytes maxL ret) (X : Stand p l e R s m args below meth c T locs cells slots) {cd : ClassFile.Cond} {x : Int32} {o : Int} (hd : decode bytes pc = .ok (.ifCond cd o, 3)) (hc : ifCond.holds cd x = true) (ho : 0 ≤ (pc : Int) + o) (hp : ((pc : Int) + o).toNat = pc') (G : Go p e below Fin' T (mkF m pc' Ls S)) : Go p e below Fin' T (mkF m pc Ls (.int x :: S)) :=
  G.via fun _ k => XS.ifYes X.here C.1 rfl rfl (hb C.2.2.2.1 hd) rfl hc ho hp k
theorem Go.ifNo (C : Cx p s m meth c Z own nm bytes maxL ret) (X : Stand p l e R s m args below meth c T locs cells slots) {cd : ClassFile.Cond} {x : Int32} {o : Int} (hd : decode bytes pc = .ok (.ifCond cd o, 3)) (hc : ifCond.holds cd x = false) (hp : pc + 3 = pc') (G : Go p e below Fin' T (mkF m pc' Ls S)) : Go p e below Fin' T (mkF m pc Ls (.int x :: S)) := by
  subst hp; exact G.via fun _ k => XS.ifNo X.here C.1 rfl (hb C.2.2.2.1 hd) rfl hc k
/-! the returns -/
theorem Go.retV (C : Cx p s m meth c Z own nm bytes maxL ret) (X : Stand p l e R s m args below meth c T locs cells slots)  (hr : ret = none) (hd : decode bytes pc = .ok (.return_, 1))  (hq : Q none T.heap locs) (hc : cells ≤ RC) (hs : slots ≤ RS) : Go p e below (Fn s RC RS Q) T (mkF m pc Ls []) := by
  have hret := C.2.2.2.2.2.1
  have hlk := C.2.2.2.2.2.2.2
  rw [hr] at hret
  obtain ⟨fs, hl, hrun, hended, hW, hsame⟩ := X.leave (v := none) (fun h => by first | rfl | (rw [hret] at h; cases h)) hlk
  exact ⟨_, _, X.returnOut C.1 hret (hb C.2.2.2.1 hd) hl, hrun, hended, _, _, rfl, hq, ⟨_, rfl⟩, hW, hsame.mono hc hs⟩
theorem Go.retN (C : Cx p s m meth c Z own nm bytes maxL ret) (X : Stand p l e R s m args below meth c T locs cells slots) {t : FieldType} {z : Int32} (hr : ret = some t) (hd : decode bytes pc = .ok (.ireturn, 1)) (ht : t = .boolean ∨ t = .byte ∨ t = .char ∨ t = .short) (hq : Q (some (.int (nar t z))) T.heap locs) (hc : cells ≤ RC) (hs : slots ≤ RS) : Go p e below (Fn s RC RS Q) T (mkF m pc Ls (.int z :: S)) := by
  have hret := C.2.2.2.2.2.1
  have hlk := C.2.2.2.2.2.2.2
  rw [hr] at hret
  obtain ⟨fs, hl, hrun, hended, hW, hsame⟩ := X.leave (v := (some (.int (nar t z)))) (fun h => by first | rfl | (rw [hret] at h; cases h)) hlk
  exact ⟨_, _, Jvm.RoadKit.retN X C.1 hret ht (hb C.2.2.2.1 hd) hl, hrun, hended, _, _, rfl, hq, ⟨_, rfl⟩, hW, hsame.mono hc hs⟩
/-! arrays whose elements are all known -/
def AL (Z : State) (h : Heap) (a : Addr) (k : ClassId) (ty : FieldType) (vs : List Value) : Prop := ∃ c : Cell, Arr Z h a c ty ∧ c.cls = k ∧ c.slots = vs.toArray
theorem AL.lt {a : Addr} {k : ClassId} {ty : FieldType} {vs : List Value} (F : AL Z h a k ty vs) : a < h.size := by obtain ⟨c, A, -⟩ := F; exact A.lt
theorem AL.ext {h' : Heap} {a : Addr} {k : ClassId} {ty : FieldType} {vs : List Value} (E : Ext h h') (F : AL Z h a k ty vs) : AL Z h' a k ty vs := by obtain ⟨c, A, r⟩ := F; exact ⟨c, A.ext E, r⟩
theorem AL.other {h' : Heap} {a b : Addr} {sl : Nat} {v : Value} {k : ClassId} {ty : FieldType} {vs : List Value} (W : Wr h h' a sl v) (F : AL Z h b k ty vs) (q : b ≠ a) : AL Z h' b k ty vs := by obtain ⟨c, A, r⟩ := F; exact ⟨c, A.other W q, r⟩
theorem AL.keep {h' : Heap} {a : Addr} {ws : List Addr} {k : ClassId} {ty : FieldType} {vs : List Value} (F : AL Z h a k ty vs) (K : Keep h h' ws) (q : a ∉ ws) : AL Z h' a k ty vs := by obtain ⟨c, A, r⟩ := F; exact ⟨c, ⟨K.2.1 a c A.1 q, A.2⟩, r⟩
theorem AL.set {h' : Heap} {a : Addr} {i : Nat} {v : Value} {k : ClassId} {ty : FieldType} {vs : List Value} (F : AL Z h a k ty vs) (W : Wr h h' a i v) : AL Z h' a k ty (vs.set i v) := by
  obtain ⟨c, A, r1, r2⟩ := F
  exact ⟨_, A.same W, r1, by simp [Cell.setSlot, r2]⟩
theorem AL.new {a : Addr} {k : ClassId} {ty : FieldType} {n : Int32} (A : Arr Z h a (newA k ty n) ty) : AL Z h a k ty (List.replicate n.toNatClampNeg (defaultValue ty)) := ⟨_, A, rfl, by simp [newA]⟩
theorem AL.arv {a : Addr} {k : ClassId} {ty : FieldType} {n : Int32} {vs : List Value} {dv : Value} (F : AL Z h a k ty vs) (hn : ¬ n < 0) (hl : n.toNatClampNeg = vs.length) (hf : ∀ v ∈ vs, fits ty v = true) : Arv Z h a k ty n vs dv := by
  obtain ⟨c, A, r1, r2⟩ := F
  refine ⟨c, A, r1, by rw [r2]; simp [hl], hn, fun i hi => ?_, fun i hi => ?_⟩
  · have hi' : i < vs.length := by simpa [r2] using hi
    simp [r2, List.getD, List.getElem?_eq_getElem hi']
  · have hi' : i < vs.length := by simpa [r2] using hi
    have q : vs.getD i dv = vs[i] := by simp [List.getD, List.getElem?_eq_getElem hi']
    rw [q]; exact hf _ (List.getElem_mem hi')
theorem AL.of_arv {a : Addr} {k : ClassId} {ty : FieldType} {n : Int32} {vs : List Value} {dv : Value} (F : Arv Z h a k ty n vs dv) (hl : n.toNatClampNeg = vs.length) : AL Z h a k ty vs := by
  obtain ⟨c, A, r1, r2, -, H, -⟩ := F
  refine ⟨c, A, r1, ?_⟩
  apply Array.ext_getElem?
  intro i
  by_cases hi : i < c.slots.size
  · have hi' : i < vs.length := by omega
    rw [H i hi]
    simp [List.getD, List.getElem?_eq_getElem hi']
  · have hi' : vs.length ≤ i := by omega
    rw [Array.getElem?_eq_none (by omega)]
    simp [List.getElem?_eq_none hi']
theorem Sta.old {n d K1 : String} {v : Value} (F : Sta Z Z.heap K1 n d v) (O : Ext Z.heap h) : Sta Z h K1 n d v := F.ext O
theorem Ext.trans {h1 h2 h3 : Heap} (E : Ext h1 h2) (E' : Ext h2 h3) : Ext h1 h3 := ⟨Nat.le_trans E.1 E'.1, fun x c q => E'.2 x c (E.2 x c q)⟩
theorem Ext.refl (h : Heap) : Ext h h := ⟨Nat.le_refl _, fun _ _ q => q⟩
theorem Ext.wr {h1 h2 h3 : Heap} {a : Addr} {sl : Nat} {v : Value} (E : Ext h1 h2) (W : Wr h2 h3 a sl v) (q : h1.size ≤ a) : Ext h1 h3 := by
  refine ⟨by rw [W.size]; exact E.1, fun x c hx => ?_⟩
  obtain ⟨c', e1, -, -, -, e5, -⟩ := wr_at W (E.2 x c hx)
  have ne : x ≠ a := fun e => absurd (Array.getElem?_eq_some_iff.mp hx).1 (by rw [e]; exact Nat.not_lt.mpr q)
  rw [← e5 ne]; exact e1
theorem Ext.keep {h1 h2 h3 : Heap} {ws : List Addr} (E : Ext h1 h2) (K : Keep h2 h3 ws) (q : ∀ x ∈ ws, h1.size ≤ x) : Ext h1 h3 := ⟨Nat.le_trans E.1 K.1, fun x c hx => K.2.1 x c (E.2 x c hx) fun z => absurd (Array.getElem?_eq_some_iff.mp hx).1 (Nat.not_lt.mpr (q x z))⟩
theorem Keep.toExt {h1 h2 : Heap} (K : Keep h1 h2 []) : Ext h1 h2 := ⟨K.1, fun x c hx => K.2.1 x c hx (fun z => nomatch z)⟩
theorem Keep.of_ext {h1 h2 : Heap} {ws : List Addr} (E : Ext h1 h2) : Keep h1 h2 ws := (Keep.refl h1 ws).ext E
theorem Keep.drop {h1 h2 : Heap} {ws ws' : List Addr} (K : Keep h1 h2 ws) (q : ∀ x ∈ ws, x ∈ ws' ∨ h1.size ≤ x) : Keep h1 h2 ws' := (Keep.refl h1 ws').trans K q
theorem Ins.keep {h' : Heap} {a : Addr} {ws : List Addr} {K1 : String} {bo : Bool} (F : Ins Z h a K1 bo) (K : Keep h h' ws) : Ins Z h' a K1 bo := by
  obtain ⟨cell, cT, h1, h2, h3⟩ := F
  obtain ⟨c', e1, e2, e3, -⟩ := K.2.2 _ _ h1
  exact ⟨c', cT, e1, h2, by rw [e2, e3]; exact h3⟩
/-! steps that read the tables or the heap -/
theorem Go.getF (C : Cx p s m meth c Z own nm bytes maxL ret) (X : Stand p l e R s m args below meth c T locs cells slots) {idx : Nat} {R0 O n d host : String} {a : Addr} {v : Value} (w : (Cond.fieldLink own idx R0 n d).before a0 Z = true ∨ (Cond.fieldLinkNest own idx R0 n d host).before a0 Z = true) (via : Via Z R0 O n d) (eT : T.heap = h) (F : Fld Z h a O n d v) (hd : decode bytes pc = .ok (.getfield idx, 3)) (hp : pc + 3 = pc')
    (K : ∀ T', Stand p l e R s m args below meth c T' locs cells slots → T'.heap = h → Go p e below Fin' T' (mkF m pc' Ls (v :: S))) : Go p e below Fin' T (mkF m pc Ls (.ref a :: S)) := by
  subst hp
  obtain ⟨T', X', e', st⟩ := Jvm.RoadKit.getF X C.1 C.2.1 C.2.2.1 w via eT F (g := mkF m pc Ls (.ref a :: S)) rfl rfl (hb C.2.2.2.1 hd)
  exact (K T' X' e').via st
theorem Go.putF (C : Cx p s m meth c Z own nm bytes maxL ret) (X : Stand p l e R s m args below meth c T locs cells slots) {idx kk : Nat} {R0 O n d host K1 : String} {a : Addr} {v old : Value} {ty : FieldType} (w : (Cond.fieldLink own idx R0 n d).before a0 Z = true ∨ (Cond.fieldLinkNest own idx R0 n d host).before a0 Z = true) (via : Via Z R0 O n d) (eT : T.heap = h) (F : Fld Z h a O n d old) (E : Exa Z h a K1) (L : (Cond.lays K1 O n d).before a0 Z = true ∨ ((Cond.laysFinal K1 O n d).before a0 Z = true ∧ own = O ∧ nm = "<init>")) (wi : (Cond.instantiable K1 kk).before a0 Z = true) (hty : parseFieldDescriptor d = some ty) (hn : narrow ty v = v) (hf : fits ty v = true) (hd : decode bytes pc = .ok (.putfield idx, 3)) (hp : pc + 3 = pc')
    (K : ∀ T' h', Stand p l e R s m args below meth c T' (locs ++ [⟨a, slotOf Z O n d⟩]) cells slots → T'.heap = h' → Wr h h' a (slotOf Z O n d) v → Fld Z h' a O n d v → Go p e below Fin' T' (mkF m pc' Ls S)) : Go p e below Fin' T (mkF m pc Ls (v :: .ref a :: S)) := by
  subst hp
  obtain ⟨T', h', X', e', W', st⟩ := Jvm.RoadKit.putF X C.1 C.2.1 C.2.2.1 w via eT F E (L.imp id fun q => ⟨q.1, q.2.1, C.2.2.2.2.2.2.1.trans q.2.2⟩) wi hty hn hf (g := mkF m pc Ls (v :: .ref a :: S)) rfl rfl (hb C.2.2.2.1 hd)
  exact (K T' h' X' e' W' (F.same W')).via st
theorem Go.newO (C : Cx p s m meth c Z own nm bytes maxL ret) (X : Stand p l e R s m args below meth c T locs cells slots) {idx n : Nat} {K1 : String} (w : (Cond.classLink own idx K1).before a0 Z = true) (wi : (Cond.instantiable K1 n).before a0 Z = true) (wz : (Cond.initialized K1).before a0 Z = true) (eT : T.heap = h) (hc : cells + 1 ≤ R.cells) (hl : slots + n ≤ R.slots) (hd : decode bytes pc = .ok (.new idx, 3)) (hp : pc + 3 = pc')
    (K : ∀ T' h' b, Stand p l e R s m args below meth c T' locs (cells + 1) (slots + n) → T'.heap = h' → b = h.size → Ext h h' → Exa Z h' b K1 → (∀ {O nm d : String} {ty : FieldType}, Laid Z a0 K1 O nm d → parseFieldDescriptor d = some ty → Fld Z h' b O nm d (defaultValue ty)) → Go p e below Fin' T' (mkF m pc' Ls (.ref b :: S))) : Go p e below Fin' T (mkF m pc Ls S) := by
  subst hp
  obtain ⟨T', h', X', e', E', A', D', -, st⟩ := Jvm.RoadKit.newO X C.1 C.2.1 C.2.2.1 w wi wz eT (g := mkF m pc Ls S) rfl (hb C.2.2.2.1 hd) hc hl
  exact (K T' h' h.size X' e' rfl E' A' D').via st
theorem AL.stoA {a y : Addr} {k : ClassId} {t0 ty : FieldType} {vs : List Value} {K1 : String} (F : AL Z h a k t0 vs) (O : OvrA Z k ty K1) (I : Ins Z h y K1 true) : Sto Z h a (.ref y) := by
  obtain ⟨c, A, r, -⟩ := F; exact Sto.ofVA A r O I
theorem range_drop (vs : List Value) (dv : Value) (i n : Nat) (hn : i + n ≤ vs.length) : ((List.range n).map fun j => vs.getD (i + j) dv) = (vs.drop i).take n := by
  apply List.ext_getElem
  · simp; omega
  · intro j h1 h2
    have h3 : i + j < vs.length := by simp at h1; omega
    simp [List.getD, List.getElem?_eq_getElem h3]
theorem NS.rootI {O K1 : String} {n : Nat} (w : (Cond.noSuperclass O).before a0 Z = true) (wk : (Cond.instantiable K1 n).before a0 Z = true) (hn : O ≠ K1) : NS Z O K1 := by
  obtain ⟨c, k, h1, h2, h3, -, -⟩ := Cond.noSuperclass_spec w
  obtain ⟨t, -, g1, -⟩ := Cond.instantiable_spec wk
  have ne := ids_ne h1 g1 hn
  refine ⟨c, t, h1, g1, fun fuel => ?_⟩
  cases fuel with
  | zero => rfl
  | succ f => simp [Vm.isSubclassAux, ne, h2, h3]
theorem NS.noI {K0 S0 K1 : String} {n : Nat} (w : (Cond.superclass K0 S0).before a0 Z = true) (wk : (Cond.instantiable K1 n).before a0 Z = true) (N : NS Z K0 K1) (hn : K0 ≠ K1) : ∃ c t, Z.vm.findClass K0 = some c ∧ Z.vm.findClass K1 = some t ∧ Z.vm.assignable c t = false := by
  obtain ⟨c, t, h0, g0, n3⟩ := N
  obtain ⟨p, k, kp, h1, h2, h3, h4, h5, -, h7⟩ := Cond.superclass_spec h0 w
  obtain ⟨t', k', g1, g2, g3, g4, -⟩ := Cond.instantiable_spec wk
  cases g0.symm.trans g1
  have ne := ids_ne h0 g0 hn
  have gi : k'.isInterface = false := by
    cases q : k'.isInterface with
    | false => rfl
    | true => simp [q] at g4
  refine ⟨c, t, h0, g0, ?_⟩
  show Z.vm.assignableAux (255 + 1) c t = false
  simp [Vm.assignableAux, ne, h2, g2, h5, g3, gi, Vm.isSubclass, n3]
theorem AL.sto {a y : Addr} {k : ClassId} {ty : FieldType} {vs : List Value} {K1 : String} (F : AL Z h a k ty vs) (O : Ovr Z k K1) (I : Ins Z h y K1 true) : Sto Z h a (.ref y) := by
  obtain ⟨c, A, r, -⟩ := F; exact Sto.ofV A r O I
/-! calls -/
theorem Go.initO (C : Cx p s m meth c Z own nm bytes maxL ret) (X : Stand p l e R s m args below meth c T locs cells slots) {idx : Nat} {a : Addr} (w1 : (Cond.methodLink own idx Lib.objectInit).before a0 Z = true) (w2 : (Cond.instanceMethod Lib.objectInit).before a0 Z = true) (w3 : (Cond.code Lib.objectInit ⟨#[0xb1]⟩ 1 none).before a0 Z = true) (eT : T.heap = h) (hls : Ls.size = maxL) (hf : 1 ≤ R.frames) {W : Nat} (hW : (S.map fun v => v.category).sum ≤ W) (hl : W + 12 ≤ R.locals) (hd : decode bytes pc = .ok (.invokespecial idx, 3)) (hp : pc + 3 = pc')
    (K : ∀ T', Stand p l e R s m args below meth c T' locs cells slots → T'.heap = h → Go p e below Fin' T' (mkF m pc' Ls S)) : Go p e below Fin' T (mkF m pc Ls (.ref a :: S)) := by
  subst hp
  obtain ⟨T', X', e', st⟩ := Jvm.RoadKit.initO X C.1 C.2.1 C.2.2.1 w1 w2 w3 eT (g := mkF m pc Ls (.ref a :: S)) rfl (by rw [C.2.2.2.2.1]; exact hls) rfl (hb C.2.2.2.1 hd) hf (W := W) (by show 2 * 0 + _ ≤ _; omega) hl
  exact (K T' X' e').via st
theorem Go.callS (C : Cx p s m meth c Z own nm bytes maxL ret) (X : Stand p l e R s m args below meth c T locs cells slots) {idx : Nat} {y : MethodName} {bytes' : ByteArray} {maxL' : Nat} {ret' : Option FieldType} {rm : Room} {as' : Array Value} {Q' : Option Value → Heap → List Loc → Prop} {argsL rest : List Value} {ps : List FieldType} {r : Option FieldType} {W : Nat} (w1 : (Cond.methodLink own idx y).before a0 Z = true) (w2 : (Cond.static y).before a0 Z = true) (hy : y.cls ≠ "java/lang/invoke/MethodHandle" ∧ y.cls ≠ "java/lang/invoke/VarHandle") (M : Met1 l Z y bytes' maxL' ret' rm as' h Q') (wc : (Cond.code y bytes' maxL' ret').before a0 Z = true) (wz : (Cond.initialized y.cls).before a0 Z = true) (eT : T.heap = h) (hS : S = argsL.reverse ++ rest) (has : (argsL).toArray = as') (pd : parseMethodDescriptor y.desc = some ⟨ps, r⟩) (hlen : argsL.length = ps.length) (hW : (rest.map fun v => v.category).sum ≤ W) (hls : Ls.size = maxL) (hf : rm.frames + 1 ≤ R.frames) (hlo : W + (maxL' + 11) + rm.locals ≤ R.locals) (hc : cells + rm.cells ≤ R.cells) (hs : slots + rm.slots ≤ R.slots) (hd : decode bytes pc = .ok (.invokestatic idx, 3)) (hp : pc + 3 = pc')
    (K : ∀ T' v L, Stand p l e R s m args below meth c T' (locs ++ L) (cells + rm.cells) (slots + rm.slots) → Q' v T'.heap L → Go p e below Fin' T' (mkF m pc' Ls (v.toList ++ rest))) : Go p e below Fin' T (mkF m pc Ls S) := by
  subst hp
  subst hS has
  obtain ⟨v, _, ⟨T', L', k', n'⟩, -, X', ⟨L, hQ, l', y', z'⟩, st⟩ := Jvm.LawKit.callS X C.1 (y := y) C.2.2.1 (mvT C.2.1 w1) (mvT C.2.1 w2) (mvT C.2.1 wz) (mvT C.2.1 wc) hy (backOf (W := W) (M []) C.2.1 wc wz hf hlo) (g := mkF m pc Ls (argsL.reverse ++ rest)) rfl (by show Ls.size = _; rw [C.2.2.2.2.1]; exact hls) (argsL := argsL) (rest := rest) (lenOf pd hlen) rfl (by show 2 * 0 + _ ≤ _; omega) (hb C.2.2.2.1 hd) (fun _ _ => ⟨rfl, eT, hc, hs⟩)
  dsimp only [Pt.U, Pt.locs, Pt.cells, Pt.slots] at X' l' y' z' st hQ
  subst l' y' z'
  exact (K T' v L X' hQ).via st
theorem Go.callI (C : Cx p s m meth c Z own nm bytes maxL ret) (X : Stand p l e R s m args below meth c T locs cells slots) {idx : Nat} {y : MethodName} {a : Addr} {bytes' : ByteArray} {maxL' : Nat} {ret' : Option FieldType} {rm : Room} {as' : Array Value} {Q' : Option Value → Heap → List Loc → Prop} {argsL rest : List Value} {ps : List FieldType} {r : Option FieldType} {W : Nat} (hini : y.name = "<init>") (w1 : (Cond.methodLink own idx y).before a0 Z = true) (w2 : (Cond.instanceMethod y).before a0 Z = true) (hy : y.cls ≠ "java/lang/invoke/MethodHandle" ∧ y.cls ≠ "java/lang/invoke/VarHandle") (M : Met1 l Z y bytes' maxL' ret' rm as' h Q') (wc : (Cond.code y bytes' maxL' ret').before a0 Z = true) (wz : (Cond.initialized y.cls).before a0 Z = true) (eT : T.heap = h) (hS : S = argsL.reverse ++ .ref a :: rest) (has : (.ref a :: argsL).toArray = as') (pd : parseMethodDescriptor y.desc = some ⟨ps, r⟩) (hlen : argsL.length = ps.length) (hW : (rest.map fun v => v.category).sum ≤ W) (hls : Ls.size = maxL) (hf : rm.frames + 1 ≤ R.frames) (hlo : W + (maxL' + 11) + rm.locals ≤ R.locals) (hc : cells + rm.cells ≤ R.cells) (hs : slots + rm.slots ≤ R.slots) (hr0 : ret' = none) (hd : decode bytes pc = .ok (.invokespecial idx, 3)) (hp : pc + 3 = pc')
    (K : ∀ T' v L, Stand p l e R s m args below meth c T' (locs ++ L) (cells + rm.cells) (slots + rm.slots) → Q' v T'.heap L → Go p e below Fin' T' (mkF m pc' Ls (v.toList ++ rest))) : Go p e below Fin' T (mkF m pc Ls S) := by
  subst hp
  subst hr0
  subst hS has
  obtain ⟨v, _, ⟨T', L', k', n'⟩, -, X', ⟨L, hQ, l', y', z'⟩, st⟩ := X.specialBack C.1 (y := y) hini C.2.2.1 (mvT C.2.1 w1) (mvT C.2.1 w2) (mvT C.2.1 wc) hy (backOf (W := W) (M []) C.2.1 wc wz hf hlo) (g := mkF m pc Ls (argsL.reverse ++ .ref a :: rest)) rfl (by show Ls.size = _; rw [C.2.2.2.2.1]; exact hls) (Steps.refl _) (a := a) (argsL := argsL) (rest := rest) (lenOf pd hlen) rfl (by show 2 * 0 + _ ≤ _; omega) (hb C.2.2.2.1 hd) (fun _ _ => ⟨rfl, eT, hc, hs⟩)
  dsimp only [Pt.U, Pt.locs, Pt.cells, Pt.slots] at X' l' y' z' st hQ
  subst l' y' z'
  exact (K T' v L X' hQ).via fun t k => st.trans k
theorem same_of_decl {y y0 : MethodName} {K1 : String} (w : (Cond.declares y).before a0 Z = true) (wn : (Cond.selects K1 y0 y0).before a0 Z = true) (hc0 : y0.cls = y.cls) (hy : y.cls ≠ "java/lang/invoke/MethodHandle" ∧ y.cls ≠ "java/lang/invoke/VarHandle") : (Cond.sameMethod y.cls y.cls y.name y.desc).before a0 Z = true := by
  obtain ⟨r, meth, hn, hm, -, -⟩ := Cond.declares_spec w
  obtain ⟨c2, r2, m2, q1, q2, q3, q4, mk, hmk, hmki⟩ := Cond.selects_spec wn
  have hc := findClass_of_methodNamed hn
  have hc' := findClass_of_methodNamed q3
  rw [hc0] at hc'
  have e : r.cls = m2.cls := Option.some.inj (hc.symm.trans hc')
  have hf := State.methodFound?_of_named hn hy
  simp [Cond.before, Cond.holds, Cond.value, hc, hf, hn, e, hmk, hmki]
theorem decl_of {y : MethodName} {bytes' : ByteArray} {maxL' : Nat} {ret' : Option FieldType} (w : (Cond.instanceMethod y).before a0 Z = true) (wc : (Cond.code y bytes' maxL' ret').before a0 Z = true) : (Cond.declares y).before a0 Z = true := by
  obtain ⟨mk, methM, hnamed, hmethM, hstM, habM⟩ := Cond.instanceMethod_spec w
  obtain ⟨methM', cM, hmethM', -, -, -, -, -, -, hsigM⟩ := Cond.code_spec hnamed wc
  cases hmethM.symm.trans hmethM'
  simp [Cond.before, Cond.holds, Cond.value, hnamed, hmethM, hstM, hsigM]
theorem nf_mate {y y0 : MethodName} {K1 : String} (hZ : Z.Warmed39 s.vm) (wn : (Cond.selects K1 y0 y0).before a0 Z = true) (hc0 : y0.cls = y.cls) : NotFace s y := fun r0 h0 => by
  obtain ⟨c2, r2, m2, q1, q2, q3, q4, mk, hmk, hmki⟩ := Cond.selects_spec (mvT hZ wn (args := #[]))
  have hc := findClass_of_methodNamed h0
  have hc' := findClass_of_methodNamed q3
  rw [hc0] at hc'
  have e : r0.cls = m2.cls := Option.some.inj (hc.symm.trans hc')
  exact ⟨mk, by rw [e]; exact hmk, hmki⟩
theorem Go.callV (C : Cx p s m meth c Z own nm bytes maxL ret) (X : Stand p l e R s m args below meth c T locs cells slots) {idx : Nat} {y z : MethodName} {a : Addr} {K1 : String} {bytes' : ByteArray} {maxL' : Nat} {ret' : Option FieldType} {rm : Room} {as' : Array Value} {Q' : Option Value → Heap → List Loc → Prop} {argsL rest : List Value} {ps : List FieldType} {r : Option FieldType} {W : Nat} (w1 : (Cond.methodLink own idx y).before a0 Z = true) (w2 : (Cond.declares y).before a0 Z = true) (hnf : NotFace s y) (w3 : (Cond.selects K1 y z).before a0 Z = true) (w4 : (Cond.instanceMethod z).before a0 Z = true) (E : Exa Z h a K1) (hy : y.cls ≠ "java/lang/invoke/MethodHandle" ∧ y.cls ≠ "java/lang/invoke/VarHandle") (M : Met1 l Z z bytes' maxL' ret' rm as' h Q') (wc : (Cond.code z bytes' maxL' ret').before a0 Z = true) (wz : (Cond.initialized z.cls).before a0 Z = true) (eT : T.heap = h) (hS : S = argsL.reverse ++ .ref a :: rest) (has : (.ref a :: argsL).toArray = as') (pd : parseMethodDescriptor y.desc = some ⟨ps, r⟩) (hlen : argsL.length = ps.length) (hW : (rest.map fun v => v.category).sum ≤ W) (hls : Ls.size = maxL) (hf : rm.frames + 1 ≤ R.frames) (hlo : W + (maxL' + 11) + rm.locals ≤ R.locals) (hc : cells + rm.cells ≤ R.cells) (hs : slots + rm.slots ≤ R.slots) (hd : decode bytes pc = .ok (.invokevirtual idx, 3)) (hp : pc + 3 = pc')
    (K : ∀ T' v L, Stand p l e R s m args below meth c T' (locs ++ L) (cells + rm.cells) (slots + rm.slots) → Q' v T'.heap L → Go p e below Fin' T' (mkF m pc' Ls (v.toList ++ rest))) : Go p e below Fin' T (mkF m pc Ls S) := by
  subst hp
  obtain ⟨cq, kq, qa, qb, qc⟩ := isOf C.2.1 eT E
  subst hS has
  obtain ⟨v, _, ⟨T', L', k', n'⟩, -, X', ⟨L, hQ, l', y', z'⟩, st⟩ := X.virtualBack C.1 (y := y) (z := z) C.2.2.1 (mvT C.2.1 w1) (mvT C.2.1 w2) hnf (mvT C.2.1 w3) (mvT C.2.1 w4) hy (backOf (W := W) (M []) C.2.1 wc wz hf hlo) qa qc (g := mkF m pc Ls (argsL.reverse ++ .ref a :: rest)) rfl (by show Ls.size = _; rw [C.2.2.2.2.1]; exact hls) (Steps.refl _) (argsL := argsL) (rest := rest) (lenOf pd hlen) rfl (by show 2 * 0 + _ ≤ _; omega) (hb C.2.2.2.1 hd) (fun _ _ => ⟨rfl, eT, hc, hs⟩)
  dsimp only [Pt.U, Pt.locs, Pt.cells, Pt.slots] at X' l' y' z' st hQ
  subst l' y' z'
  exact (K T' v L X' hQ).via fun t k => st.trans k
theorem notFace_at {y : MethodName} {K1 : String} (hZ : Z.Warmed39 s.vm) (w : (Cond.selects K1 y y).before a0 Z = true) : NotFace s y := notFace_of_selects (args := #[]) (mvT hZ w)
end Own
end Jvm.RoadKit

namespace Jvm.RoadKit
open Sem ClassFile Op Lib Jvm.Stand Jvm.Free Jvm.LawKit
section OwnD
variable {p : Program} {l : Launch} {e : Env} {R : Room} {s : State} {m : MethodId} {args : Array Value} {below : List Frame} {meth : Method} {c : Code} {T : State} {locs : List Loc} {cells slots : Nat} {Z : State} {a0 : Array Value} {h : Heap}
variable {RC RS : Nat} {Q : Option Value → Heap → List Loc → Prop} {Fin' : Outcome → State → Prop} {own nm : String} {bytes : ByteArray} {maxL : Nat} {ret : Option FieldType} {pc pc' : Nat} {Ls Ls' : Array Slot} {S : List Value}
theorem Go.dloadN (C : Cx p s m meth c Z own nm bytes maxL ret) (X : Stand p l e R s m args below meth c T locs cells slots) {k : Fin 4} {v : UInt64} (hd : decode bytes pc = .ok (.dload_n k, 1)) (hl : Ls[k.val]? = some (.val (.double v))) (hp : pc + 1 = pc') (G : Go p e below Fin' T (mkF m pc' Ls (.double v :: S))) : Go p e below Fin' T (mkF m pc Ls S) := by
  subst hp; exact G.via fun _ k => XS.dloadN X.here C.1 rfl (hb C.2.2.2.1 hd) hl k
theorem Go.dload (C : Cx p s m meth c Z own nm bytes maxL ret) (X : Stand p l e R s m args below meth c T locs cells slots) {k : Nat} {v : UInt64} (hd : decode bytes pc = .ok (.dload k, 2)) (hl : Ls[k]? = some (.val (.double v))) (hp : pc + 2 = pc') (G : Go p e below Fin' T (mkF m pc' Ls (.double v :: S))) : Go p e below Fin' T (mkF m pc Ls S) := by
  subst hp; exact G.via fun _ k => XS.dload X.here C.1 rfl (hb C.2.2.2.1 hd) hl k
theorem Go.dstoreN (C : Cx p s m meth c Z own nm bytes maxL ret) (X : Stand p l e R s m args below meth c T locs cells slots) {k : Fin 4} {v : UInt64} (hd : decode bytes pc = .ok (.dstore_n k, 1)) (hl : storeLocals Ls k.val (.double v) = some Ls') (hp : pc + 1 = pc') (G : Go p e below Fin' T (mkF m pc' Ls' S)) : Go p e below Fin' T (mkF m pc Ls (.double v :: S)) := by
  subst hp; exact G.via fun _ k => XS.dstoreN X.here C.1 rfl (hb C.2.2.2.1 hd) rfl hl k
theorem Go.dstore (C : Cx p s m meth c Z own nm bytes maxL ret) (X : Stand p l e R s m args below meth c T locs cells slots) {k : Nat} {v : UInt64} (hd : decode bytes pc = .ok (.dstore k, 2)) (hl : storeLocals Ls k (.double v) = some Ls') (hp : pc + 2 = pc') (G : Go p e below Fin' T (mkF m pc' Ls' S)) : Go p e below Fin' T (mkF m pc Ls (.double v :: S)) := by
  subst hp; exact G.via fun _ k => XS.dstore X.here C.1 rfl (hb C.2.2.2.1 hd) rfl hl k
theorem Go.dconst0 (C : Cx p s m meth c Z own nm bytes maxL ret) (X : Stand p l e R s m args below meth c T locs cells slots)  (hd : decode bytes pc = .ok (.dconst 0, 1))  (hp : pc + 1 = pc') (G : Go p e below Fin' T (mkF m pc' Ls (.double FP.dconst0 :: S))) : Go p e below Fin' T (mkF m pc Ls S) := by
  subst hp; exact G.via fun _ k => XS.dconst0 X.here C.1 rfl (hb C.2.2.2.1 hd) rfl k
theorem Go.dconst1 (C : Cx p s m meth c Z own nm bytes maxL ret) (X : Stand p l e R s m args below meth c T locs cells slots)  (hd : decode bytes pc = .ok (.dconst 1, 1))  (hp : pc + 1 = pc') (G : Go p e below Fin' T (mkF m pc' Ls (.double FP.dconst1 :: S))) : Go p e below Fin' T (mkF m pc Ls S) := by
  subst hp; exact G.via fun _ k => XS.dconst1 X.here C.1 rfl (hb C.2.2.2.1 hd) rfl k
theorem Go.l2d (C : Cx p s m meth c Z own nm bytes maxL ret) (X : Stand p l e R s m args below meth c T locs cells slots) {x : Int64} (hd : decode bytes pc = .ok (.l2d, 1))  (hp : pc + 1 = pc') (G : Go p e below Fin' T (mkF m pc' Ls (.double (FP.l2d x) :: S))) : Go p e below Fin' T (mkF m pc Ls (.long x :: S)) := by
  subst hp; exact G.via fun _ k => XS.l2dS X.here C.1 rfl (hb C.2.2.2.1 hd) rfl rfl k
theorem Go.i2d (C : Cx p s m meth c Z own nm bytes maxL ret) (X : Stand p l e R s m args below meth c T locs cells slots) {x : Int32} {v : UInt64} (hd : decode bytes pc = .ok (.i2d, 1)) (hv : FP.i2d x = v) (hp : pc + 1 = pc') (G : Go p e below Fin' T (mkF m pc' Ls (.double v :: S))) : Go p e below Fin' T (mkF m pc Ls (.int x :: S)) := by
  subst hp; exact G.via fun _ k => XS.i2dS X.here C.1 rfl (hb C.2.2.2.1 hd) rfl hv k
theorem Go.dmul (C : Cx p s m meth c Z own nm bytes maxL ret) (X : Stand p l e R s m args below meth c T locs cells slots) {x y : UInt64} (hd : decode bytes pc = .ok (.dmul, 1)) (hn : Jvm.Free.Fl.NoNaN64 (FP.dmul x y)) (hp : pc + 1 = pc') (G : Go p e below Fin' T (mkF m pc' Ls (.double (FP.dmul x y) :: S))) : Go p e below Fin' T (mkF m pc Ls (.double y :: .double x :: S)) := by
  subst hp; exact G.via fun _ k => XS.dmulS X.here C.1 rfl (hb C.2.2.2.1 hd) rfl hn rfl k
theorem Go.ddiv (C : Cx p s m meth c Z own nm bytes maxL ret) (X : Stand p l e R s m args below meth c T locs cells slots) {x y : UInt64} (hd : decode bytes pc = .ok (.ddiv, 1)) (hn : Jvm.Free.Fl.NoNaN64 (FP.ddiv x y)) (hp : pc + 1 = pc') (G : Go p e below Fin' T (mkF m pc' Ls (.double (FP.ddiv x y) :: S))) : Go p e below Fin' T (mkF m pc Ls (.double y :: .double x :: S)) := by
  subst hp; exact G.via fun _ k => XS.ddivS X.here C.1 rfl (hb C.2.2.2.1 hd) rfl hn rfl k
theorem Go.dcmp (C : Cx p s m meth c Z own nm bytes maxL ret) (X : Stand p l e R s m args below meth c T locs cells slots) {o : CmpOp} {x y : UInt64} {v : Int32} (hd : decode bytes pc = .ok (.dcmp o, 1)) (hv : cmpValue (FP.dcmp x y) o = v) (hp : pc + 1 = pc') (G : Go p e below Fin' T (mkF m pc' Ls (.int v :: S))) : Go p e below Fin' T (mkF m pc Ls (.double y :: .double x :: S)) := by
  subst hp; exact G.via fun _ k => XS.dcmpS X.here C.1 rfl (hb C.2.2.2.1 hd) rfl hv k
theorem Go.ldc2D (C : Cx p s m meth c Z own nm bytes maxL ret) (X : Stand p l e R s m args below meth c T locs cells slots) {i : Nat} {z : UInt64} (hd : decode bytes pc = .ok (.ldc2_w i, 3)) (w : (Cond.constantDouble own i z).before a0 Z = true) (hp : pc + 3 = pc') (G : Go p e below Fin' T (mkF m pc' Ls (.double z :: S))) : Go p e below Fin' T (mkF m pc Ls S) := by
  subst hp; exact G.via fun _ k => X.ldc2DoubleC C.1 C.2.2.1 (mvT C.2.1 w) (g := mkF m pc Ls S) rfl (hb C.2.2.2.1 hd) _ k
theorem Go.retD (C : Cx p s m meth c Z own nm bytes maxL ret) (X : Stand p l e R s m args below meth c T locs cells slots) {z : UInt64} (hr : ret = some .double) (hd : decode bytes pc = .ok (.dreturn, 1)) (hq : Q (some (.double z)) T.heap locs) (hc : cells ≤ RC) (hs : slots ≤ RS) : Go p e below (Fn s RC RS Q) T (mkF m pc Ls (.double z :: S)) := by
  have hret := C.2.2.2.2.2.1
  have hlk := C.2.2.2.2.2.2.2
  rw [hr] at hret
  obtain ⟨fs, hl, hrun, hended, hW, hsame⟩ := X.leave (v := (some (.double z))) (fun h => by first | rfl | (rw [hret] at h; cases h)) hlk
  exact ⟨_, _, retOut X C.1 hret rfl (Or.inr (Or.inr (Or.inl ⟨rfl, rfl, z, rfl⟩))) (hb C.2.2.2.1 hd) hl, hrun, hended, _, _, rfl, hq, ⟨_, rfl⟩, hW, hsame.mono hc hs⟩
theorem Go.absD (C : Cx p s m meth c Z own nm bytes maxL ret) (X : Stand p l e R s m args below meth c T locs cells slots) {idx : Nat} {a : UInt64} {W : Nat} (w1 : (Cond.methodLink own idx Jvm.Free.Fl.Abs.absDN).before a0 Z = true) (w2 : (Cond.static Jvm.Free.Fl.Abs.absDN).before a0 Z = true) (w3 : (Cond.initialized "java/lang/Math").before a0 Z = true) (w4 : (Cond.code Jvm.Free.Fl.Abs.absDN Jvm.Free.Fl.Abs.absDCode 2 (some .double)).before a0 Z = true) (eT : T.heap = h) (ha : Jvm.Free.Fl.NoNaN64 a) (hls : Ls.size = maxL) (hf : 1 ≤ R.frames) (hW : (S.map fun v => v.category).sum ≤ W) (hlo : W + 13 ≤ R.locals) (hc : cells ≤ R.cells) (hs : slots ≤ R.slots) (hd : decode bytes pc = .ok (.invokestatic idx, 3)) (hp : pc + 3 = pc')
    (K : ∀ T', Stand p l e R s m args below meth c T' locs cells slots → T'.heap = h → Go p e below Fin' T' (mkF m pc' Ls ((.double (a &&& 0x7fffffffffffffff)) :: S))) : Go p e below Fin' T (mkF m pc Ls (.double a :: S)) := by
  subst hp
  obtain ⟨T', X', e', st⟩ := natS X C.1 C.2.1 C.2.2.1 w1 w2 w3 w4 (by decide) eT (W := W) (F := fun a' => a' = #[.double a] ∧ Jvm.Free.Fl.NoNaN64 a) (val := (.double (a &&& 0x7fffffffffffffff))) (fun q => Jvm.Free.Fl.Abs.absD_pays a q hf hlo) (g := mkF m pc Ls (.double a :: S)) rfl (by show Ls.size = _; rw [C.2.2.2.2.1]; exact hls) (argsL := [.double a]) (rest := S) (lenOf (ps := [.double]) (r := some .double) (by decide +kernel) rfl) rfl (by show 2 * 0 + _ ≤ _; omega) (hb C.2.2.2.1 hd) hc hs ⟨rfl, ha⟩ rfl
  exact (K T' X' e').via st
theorem Go.maxD (C : Cx p s m meth c Z own nm bytes maxL ret) (X : Stand p l e R s m args below meth c T locs cells slots) {idx : Nat} {a b : UInt64} {W : Nat} (w1 : (Cond.methodLink own idx Jvm.Free.Fl.Abs.maxDN).before a0 Z = true) (w2 : (Cond.static Jvm.Free.Fl.Abs.maxDN).before a0 Z = true) (w3 : (Cond.initialized "java/lang/Math").before a0 Z = true) (w4 : (Cond.code Jvm.Free.Fl.Abs.maxDN Jvm.Free.Fl.Abs.maxDCode 4 (some .double)).before a0 Z = true) (eT : T.heap = h) (ha : Jvm.Free.Fl.NoNaN64 a) (hb' : Jvm.Free.Fl.NoNaN64 b) (hls : Ls.size = maxL) (hf : 1 ≤ R.frames) (hW : (S.map fun v => v.category).sum ≤ W) (hlo : W + 15 ≤ R.locals) (hc : cells ≤ R.cells) (hs : slots ≤ R.slots) (hd : decode bytes pc = .ok (.invokestatic idx, 3)) (hp : pc + 3 = pc')
    (K : ∀ T', Stand p l e R s m args below meth c T' locs cells slots → T'.heap = h → Go p e below Fin' T' (mkF m pc' Ls ((.double (Jvm.Native.java_lang_Math.nans.pick64 true a b)) :: S))) : Go p e below Fin' T (mkF m pc Ls (.double b :: .double a :: S)) := by
  subst hp
  obtain ⟨T', X', e', st⟩ := natS X C.1 C.2.1 C.2.2.1 w1 w2 w3 w4 (by decide) eT (W := W) (F := fun a' => a' = #[.double a, .double b] ∧ Jvm.Free.Fl.NoNaN64 a ∧ Jvm.Free.Fl.NoNaN64 b) (val := (.double (Jvm.Native.java_lang_Math.nans.pick64 true a b))) (fun q => Jvm.Free.Fl.Abs.maxD_pays a b q hf hlo) (g := mkF m pc Ls (.double b :: .double a :: S)) rfl (by show Ls.size = _; rw [C.2.2.2.2.1]; exact hls) (argsL := [.double a, .double b]) (rest := S) (lenOf (ps := [.double, .double]) (r := some .double) (by decide +kernel) rfl) rfl (by show 2 * 0 + _ ≤ _; omega) (hb C.2.2.2.1 hd) hc hs ⟨rfl, ha, hb'⟩ rfl
  exact (K T' X' e').via st
theorem Go.minD (C : Cx p s m meth c Z own nm bytes maxL ret) (X : Stand p l e R s m args below meth c T locs cells slots) {idx : Nat} {a b : UInt64} {W : Nat} (w1 : (Cond.methodLink own idx Jvm.Free.Fl.Abs.minDN).before a0 Z = true) (w2 : (Cond.static Jvm.Free.Fl.Abs.minDN).before a0 Z = true) (w3 : (Cond.initialized "java/lang/Math").before a0 Z = true) (w4 : (Cond.code Jvm.Free.Fl.Abs.minDN Jvm.Free.Fl.Abs.minDCode 4 (some .double)).before a0 Z = true) (eT : T.heap = h) (ha : Jvm.Free.Fl.NoNaN64 a) (hb' : Jvm.Free.Fl.NoNaN64 b) (hls : Ls.size = maxL) (hf : 1 ≤ R.frames) (hW : (S.map fun v => v.category).sum ≤ W) (hlo : W + 15 ≤ R.locals) (hc : cells ≤ R.cells) (hs : slots ≤ R.slots) (hd : decode bytes pc = .ok (.invokestatic idx, 3)) (hp : pc + 3 = pc')
    (K : ∀ T', Stand p l e R s m args below meth c T' locs cells slots → T'.heap = h → Go p e below Fin' T' (mkF m pc' Ls ((.double (Jvm.Native.java_lang_Math.nans.pick64 false a b)) :: S))) : Go p e below Fin' T (mkF m pc Ls (.double b :: .double a :: S)) := by
  subst hp
  obtain ⟨T', X', e', st⟩ := natS X C.1 C.2.1 C.2.2.1 w1 w2 w3 w4 (by decide) eT (W := W) (F := fun a' => a' = #[.double a, .double b] ∧ Jvm.Free.Fl.NoNaN64 a ∧ Jvm.Free.Fl.NoNaN64 b) (val := (.double (Jvm.Native.java_lang_Math.nans.pick64 false a b))) (fun q => Jvm.Free.Fl.Abs.minD_pays a b q hf hlo) (g := mkF m pc Ls (.double b :: .double a :: S)) rfl (by show Ls.size = _; rw [C.2.2.2.2.1]; exact hls) (argsL := [.double a, .double b]) (rest := S) (lenOf (ps := [.double, .double]) (r := some .double) (by decide +kernel) rfl) rfl (by show 2 * 0 + _ ≤ _; omega) (hb C.2.2.2.1 hd) hc hs ⟨rfl, ha, hb'⟩ rfl
  exact (K T' X' e').via st
end OwnD
end Jvm.RoadKit

namespace Jvm.Own8
open Jvm.FP.Core
theorem L1 (a : Int) (A B K : Nat) (hK : 0 ≤ (K : Int) + a) : A * 2 ^ a.toNat = B * 2 ^ (-a).toNat ↔ A * 2 ^ ((K : Int) + a).toNat = B * 2 ^ K := by
  by_cases h : 0 ≤ a
  · obtain ⟨b, rfl⟩ := Int.eq_ofNat_of_zero_le h
    rw [show (-(b : Int)).toNat = 0 by omega, show ((K : Int) + b).toNat = b + K by omega, Int.toNat_natCast, Nat.pow_add, Nat.pow_zero, Nat.mul_one, ← Nat.mul_assoc]
    exact ⟨fun e => by rw [e], fun e => Nat.eq_of_mul_eq_mul_right (Nat.two_pow_pos K) e⟩
  · obtain ⟨b, rfl⟩ : ∃ b : Nat, a = -b := ⟨(-a).toNat, by omega⟩
    obtain ⟨d, rfl⟩ : ∃ d, K = b + d := ⟨K - b, by omega⟩
    rw [show (-(b : Int)).toNat = 0 by omega, show (-(-(b : Int))).toNat = b by omega, show (((b + d : Nat) : Int) + -(b : Int)).toNat = d by omega, Nat.pow_zero, Nat.mul_one, Nat.pow_add, ← Nat.mul_assoc]
    exact ⟨fun e => by rw [e], fun e => Nat.eq_of_mul_eq_mul_right (Nat.two_pow_pos d) e⟩
/-- x is the double u / 8 -/
def V8 (x : UInt64) (u : Int) : Prop := ∃ s c q, val64 x = .fin s c q ∧ c * 2 ^ (q + 3).toNat = u.natAbs * 2 ^ (-(q + 3)).toNat ∧ (u ≠ 0 → s = decide (u < 0))
theorem sgn_u {s : Bool} {u : Int} (P : Nat) (g : u ≠ 0 → s = decide (u < 0)) : signed s (u.natAbs * P) = u * (P : Int) := by
  by_cases h0 : u = 0
  · subst h0; cases s <;> simp [signed]
  · rw [g h0]
    by_cases hu : u < 0
    · simp only [signed, hu, decide_true, if_true]
      rw [Int.natCast_mul, Int.ofNat_natAbs_of_nonpos (by omega), Int.neg_mul, Int.neg_neg]
    · simp only [signed, hu, decide_false]
      rw [Int.natCast_mul, Int.natAbs_of_nonneg (by omega)]; rfl
theorem V8.zv {x : UInt64} {u : Int} (h : V8 x u) : val64 x ≠ .nan ∧ zval b64 (val64 x) = u * ((2 ^ 1071 : Nat) : Int) := by
  obtain ⟨s, c, q, e, m, g⟩ := h
  have fx := val64_fits x
  rw [e] at fx ⊢
  have q1 : b64.qmin ≤ q := fx.2.1
  have qm : b64.qmin = -1074 := by decide
  refine ⟨nofun, ?_⟩
  have k := (L1 (q + 3) c u.natAbs 1071 (by omega)).mp m
  show signed s (c * 2 ^ (q - b64.qmin).toNat) = _
  rw [show (q - b64.qmin).toNat = (((1071 : Nat) : Int) + (q + 3)).toNat by omega, k]
  exact sgn_u _ g
theorem cmp_sc (u v : Int) (P : Nat) (hP : 0 < P) : compare (u * (P : Int)) (v * (P : Int)) = compare u v := by
  have hp : (0 : Int) < P := by omega
  rcases Int.lt_trichotomy u v with h | h | h
  · rw [(compare_lt_iff _ _).mpr h, (compare_lt_iff _ _).mpr (Int.mul_lt_mul_of_pos_right h hp)]
  · rw [h, (compare_eq_iff _ _).mpr rfl, (compare_eq_iff _ _).mpr rfl]
  · rw [(compare_gt_iff _ _).mpr h, (compare_gt_iff _ _).mpr (Int.mul_lt_mul_of_pos_right h hp)]
theorem V8.cmp {x y : UInt64} {u v : Int} (hx : V8 x u) (hy : V8 y v) : dcmp x y = some (compare u v) := by
  rw [dcmp_zval hx.zv.1 hy.zv.1, hx.zv.2, hy.zv.2, cmp_sc _ _ _ (Nat.two_pow_pos _)]
theorem canon (s : Bool) (N : Nat) (h : N < 2 ^ 53) : ∃ c q, Jvm.FP.Core.fits b64 (.fin s c q) ∧ c * 2 ^ (q + 3).toNat = N * 2 ^ (-(q + 3)).toNat := by
  have qm : b64.qmin = -1074 := by decide
  have qM : b64.qmax = 971 := by decide
  have hp : b64.p = 53 := rfl
  have ht : b64.tails = 2 ^ 52 := rfl
  by_cases h0 : N = 0
  · refine ⟨0, -1074, ⟨by rw [hp]; decide, by omega, by omega, Or.inl (by omega)⟩, by subst h0; simp⟩
  · have l1 : 2 ^ N.log2 ≤ N := Nat.log2_self_le h0
    have l2 : N < 2 ^ (N.log2 + 1) := Nat.lt_log2_self
    have l3 : N.log2 < 53 := (Nat.log2_lt h0).mpr h
    obtain ⟨d, hd⟩ : ∃ d, d + N.log2 = 52 := ⟨52 - N.log2, by omega⟩
    refine ⟨N * 2 ^ d, (N.log2 : Int) - 55, ⟨?_, by omega, by omega, Or.inr ?_⟩, ?_⟩
    · rw [hp, show (53 : Nat) = (N.log2 + 1) + d by omega, Nat.pow_add]
      exact Nat.mul_lt_mul_of_pos_right l2 (Nat.two_pow_pos d)
    · rw [ht, show (52 : Nat) = N.log2 + d by omega, Nat.pow_add]
      exact Nat.mul_le_mul_right _ l1
    · rw [show ((N.log2 : Int) - 55 + 3).toNat = 0 by omega, show (-((N.log2 : Int) - 55 + 3)).toNat = d by omega]; simp
theorem rnd {s : Bool} {A B N : Nat} {e : Int} (hB : 0 < B) (hN : N < 2 ^ 53) (h : A * 2 ^ (e + 3).toNat = N * B * 2 ^ (-(e + 3)).toNat) :
    ∃ c q, Jvm.FP.Core.fits b64 (.fin s c q) ∧ roundRatio b64 s A B e = .fin s c q ∧ c * 2 ^ (q + 3).toNat = N * 2 ^ (-(q + 3)).toNat := by
  obtain ⟨c, q, hf, hc⟩ := canon s N hN
  refine ⟨c, q, hf, ?_, hc⟩
  rw [roundRatio_congr (A' := N) (B' := 1) (e' := -3) hB (by decide) (by rw [Nat.mul_one, show e - -3 = e + 3 by omega, show -3 - e = -(e + 3) by omega]; exact h)]
  refine roundRatio_exact good_b64 (by decide) hf ?_
  rw [Nat.mul_one, show -3 - q = -(q + 3) by omega, show q - -3 = q + 3 by omega]; exact hc.symm
theorem V8.of {d : Datum} {s : Bool} {A B : Nat} {e u : Int} (hd : d = roundRatio b64 s A B e) (hB : 0 < B) (hN : u.natAbs < 2 ^ 53) (h : A * 2 ^ (e + 3).toNat = u.natAbs * B * 2 ^ (-(e + 3)).toNat) (g : u ≠ 0 → s = decide (u < 0)) : V8 (of64 d) u := by
  obtain ⟨c, q, hf, hr, hc⟩ := rnd (s := s) hB hN h
  refine ⟨s, c, q, ?_, hc, g⟩
  rw [hd, hr]; exact val64_of64 hf
theorem V8.l2d {a : Int64} (h : a.toInt.natAbs < 2 ^ 50) : V8 (l2d a) (8 * a.toInt) := by
  refine V8.of (s := decide (a.toInt < 0)) (A := a.toInt.natAbs) (B := 1) (e := 0) rfl (by decide) (by omega) ?_ ?_
  · show a.toInt.natAbs * 8 = _ * 1 * 1; omega
  · intro _; congr 1; apply propext; omega
theorem V8.mul {x y : UInt64} {u v w : Int} (hx : V8 x u) (hy : V8 y v) (h : u * v = 8 * w) (hw : w.natAbs < 2 ^ 53) : V8 (dmul x y) w := by
  obtain ⟨s, c, q, e, m, g⟩ := hx
  obtain ⟨t, d, r, e', m', g'⟩ := hy
  have hn : u.natAbs * v.natAbs = 8 * w.natAbs := by rw [← Int.natAbs_mul, h, Int.natAbs_mul]; rfl
  obtain ⟨K1, hK1⟩ : ∃ K : Nat, 0 ≤ (K : Int) + (q + 3) := ⟨(-(q + 3)).toNat, by omega⟩
  obtain ⟨K2, hK2⟩ : ∃ K : Nat, 0 ≤ (K : Int) + (r + 3) := ⟨(-(r + 3)).toNat, by omega⟩
  have m1 := (L1 _ _ _ K1 hK1).mp m
  have m2 := (L1 _ _ _ K2 hK2).mp m'
  have e1 : val64 x = Jvm.FP.Core.decode b64 x.toNat := rfl
  refine V8.of (d := round b64 (exactProduct (val64 x) (val64 y))) (s := s != t) (A := c * d) (B := 1) (e := q + r) (by rw [e, e']; rfl) (by decide) hw ?_ ?_
  · rw [Nat.mul_one]
    refine (L1 (q + r + 3) (c * d) w.natAbs (K1 + K2 + 3) (by omega)).mpr ?_
    have hm : (c * 2 ^ ((K1 : Int) + (q + 3)).toNat) * (d * 2 ^ ((K2 : Int) + (r + 3)).toNat) = (u.natAbs * 2 ^ K1) * (v.natAbs * 2 ^ K2) := by rw [m1, m2]
    rw [show (((K1 + K2 + 3 : Nat) : Int) + (q + r + 3)).toNat = ((K1 : Int) + (q + 3)).toNat + ((K2 : Int) + (r + 3)).toNat by omega, Nat.pow_add, Nat.mul_mul_mul_comm, hm, Nat.mul_mul_mul_comm, hn, Nat.pow_add, Nat.pow_add]
    rw [show (2 : Nat) ^ 3 = 8 from rfl, Nat.mul_comm 8, Nat.mul_assoc, Nat.mul_comm 8]
  · intro hw0
    have hu : u ≠ 0 := by rintro rfl; omega
    have hv : v ≠ 0 := by rintro rfl; simp at h; omega
    rw [g hu, g' hv]
    have key : (w < 0) ↔ ((u < 0) ≠ (v < 0)) := by
      rcases Int.lt_trichotomy u 0 with a | a | a
      · rcases Int.lt_trichotomy v 0 with b | b | b
        · have := Int.mul_pos_of_neg_of_neg a b; simp [a, b]; omega
        · exact absurd b hv
        · have := Int.mul_neg_of_neg_of_pos a b; have b' : ¬ v < 0 := by omega
          simp [a, b']; omega
      · exact absurd a hu
      · rcases Int.lt_trichotomy v 0 with b | b | b
        · have := Int.mul_neg_of_pos_of_neg a b; have a' : ¬ u < 0 := by omega
          simp [a', b]; omega
        · exact absurd b hv
        · have := Int.mul_pos a b; have a' : ¬ u < 0 := by omega
          have b' : ¬ v < 0 := by omega
          simp [a', b']; omega
    by_cases a : u < 0 <;> by_cases b : v < 0 <;> simp [a, b] at key <;> simp [a, b, key] <;> omega
theorem V8.div {x y : UInt64} {u v w : Int} (hx : V8 x u) (hy : V8 y v) (hv : v ≠ 0) (h : 8 * u = w * v) (hw : w.natAbs < 2 ^ 53) : V8 (ddiv x y) w := by
  obtain ⟨s, c, q, e, m, g⟩ := hx
  obtain ⟨t, d, r, e', m', g'⟩ := hy
  have hn : 8 * u.natAbs = w.natAbs * v.natAbs := by rw [← Int.natAbs_mul, ← h, Int.natAbs_mul]; rfl
  have hd : d ≠ 0 := by
    rintro rfl
    rw [Nat.zero_mul] at m'
    have := Nat.two_pow_pos (-(r + 3)).toNat
    have := Nat.mul_pos (Int.natAbs_pos.mpr hv) this
    omega
  obtain ⟨K, hK, hK'⟩ : ∃ K : Nat, 0 ≤ (K : Int) + (r + 3) ∧ 0 ≤ (K : Int) + 3 + (q + 3) := ⟨(-(r + 3)).toNat + (-(q + 6)).toNat, by omega, by omega⟩
  have m1 := (L1 _ _ _ (K + 3) (by omega)).mp m
  have m2 := (L1 _ _ _ K hK).mp m'
  refine V8.of (d := quotient b64 (val64 x) (val64 y)) (s := s != t) (A := c) (B := d) (e := q - r) (by rw [e, e']; exact if_neg hd) (by omega) hw ?_ ?_
  · refine (L1 (q - r + 3) c (w.natAbs * d) ((K : Int) + (r + 3)).toNat (by omega)).mpr ?_
    rw [Nat.mul_assoc, m2, ← Nat.mul_assoc, ← hn, show (((((K : Int) + (r + 3)).toNat : Nat) : Int) + (q - r + 3)).toNat = (((K + 3 : Nat) : Int) + (q + 3)).toNat by omega, m1, Nat.pow_add]
    rw [show (2 : Nat) ^ 3 = 8 from rfl, Nat.mul_comm 8, Nat.mul_assoc, Nat.mul_comm 8]
  · intro hw0
    have hu : u ≠ 0 := by
      rintro rfl
      have : w * v = 0 := by omega
      rcases Int.mul_eq_zero.mp this with a | a
      · exact hw0 a
      · exact hv a
    rw [g hu, g' hv]
    have key : (w < 0) ↔ ((u < 0) ≠ (v < 0)) := by
      rcases Int.lt_trichotomy w 0 with a | a | a
      · rcases Int.lt_trichotomy v 0 with b | b | b
        · have := Int.mul_pos_of_neg_of_neg a b; have c' : ¬ u < 0 := by omega
          simp [a, b, c']
        · exact absurd b hv
        · have := Int.mul_neg_of_neg_of_pos a b; have c' : u < 0 := by omega
          have b' : ¬ v < 0 := by omega
          simp [a, b', c']
      · exact absurd a hw0
      · have a' : ¬ w < 0 := by omega
        rcases Int.lt_trichotomy v 0 with b | b | b
        · have := Int.mul_neg_of_pos_of_neg a b; have c' : u < 0 := by omega
          simp [a', b, c']
        · exact absurd b hv
        · have := Int.mul_pos a b; have b' : ¬ v < 0 := by omega
          have c' : ¬ u < 0 := by omega
          simp [a', b', c']
    by_cases a : u < 0 <;> by_cases b : v < 0 <;> simp [a, b] at key <;> simp [a, b, key] <;> omega
theorem V8.nn {x : UInt64} {u : Int} (h : V8 x u) : Jvm.Free.Fl.NoNaN64 x := by
  refine Jvm.Free.Fl.noNaN64_no.mpr ?_
  obtain ⟨s, c, q, e, -⟩ := h
  show decide (Jvm.FP.Core.decode b64 x.toNat = .nan) = false
  rw [show Jvm.FP.Core.decode b64 x.toNat = .fin s c q from e]; rfl
theorem V8.eq {x : UInt64} {u v : Int} (h : V8 x u) (e : u = v) : V8 x v := e ▸ h
theorem V8.zero : V8 Jvm.FP.dconst0 0 := V8.l2d (a := 0) (by decide)
theorem V8.one : V8 Jvm.FP.dconst1 8 := by
  have h := V8.l2d (a := 1) (by decide)
  rw [show Jvm.FP.Core.l2d 1 = Jvm.FP.dconst1 from by decide +kernel] at h
  exact h
theorem V8.w {a : Int64} (h : a.toInt.natAbs < 1125899906842624) : V8 (Jvm.FP.l2d a) (8 * a.toInt) := V8.l2d h
theorem V8.dmul {x y : UInt64} {u v w : Int} (hx : V8 x u) (hy : V8 y v) (h : u * v = 8 * w) (hw : w.natAbs < 9007199254740992) : V8 (Jvm.FP.dmul x y) w := V8.mul hx hy h hw
theorem V8.ddiv {x y : UInt64} {u v w : Int} (hx : V8 x u) (hy : V8 y v) (hv : v ≠ 0) (h : 8 * u = w * v) (hw : w.natAbs < 9007199254740992) : V8 (Jvm.FP.ddiv x y) w := V8.div hx hy hv h hw
open Jvm.Native.java_lang_Math.nans in
theorem V8.pmax {x y : UInt64} {u v : Int} (hx : V8 x u) (hy : V8 y v) : V8 (pick64 true x y) (if u < v then v else u) := by
  have h : Jvm.FP.dcmp x y = some (compare u v) := hx.cmp hy
  unfold pick64
  rw [h]
  rcases Int.lt_trichotomy u v with g | g | g
  · rw [(compare_lt_iff _ _).mpr g, if_pos g]; exact hy
  · subst g; rw [(compare_eq_iff _ _).mpr rfl, if_neg (Int.lt_irrefl u)]; simp only []; split
    · exact hy
    · exact hx
  · rw [(compare_gt_iff _ _).mpr g]; show V8 x _; rw [if_neg (by omega)]; exact hx
open Jvm.Native.java_lang_Math.nans in
theorem V8.pmin {x y : UInt64} {u v : Int} (hx : V8 x u) (hy : V8 y v) : V8 (pick64 false x y) (if u < v then u else v) := by
  have h : Jvm.FP.dcmp x y = some (compare u v) := hx.cmp hy
  unfold pick64
  rw [h]
  rcases Int.lt_trichotomy u v with g | g | g
  · rw [(compare_lt_iff _ _).mpr g, if_pos g]; exact hx
  · subst g; rw [(compare_eq_iff _ _).mpr rfl, if_neg (Int.lt_irrefl u)]; simp only []; split
    · exact hy
    · exact hx
  · rw [(compare_gt_iff _ _).mpr g]; show V8 y _; rw [if_neg (by omega)]; exact hy
theorem cv_eq {x y : UInt64} {u v : Int} (hx : V8 x u) (hy : V8 y v) (h : u = v) (o : Jvm.ClassFile.CmpOp) : Jvm.Op.cmpValue (Jvm.FP.dcmp x y) o = 0 := by
  rw [show Jvm.FP.dcmp x y = some (compare u v) from hx.cmp hy, (compare_eq_iff _ _).mpr h]; rfl
theorem cv_nlt {x y : UInt64} {u v : Int} (hx : V8 x u) (hy : V8 y v) (h : v ≤ u) (o : Jvm.ClassFile.CmpOp) : ¬ Jvm.Op.cmpValue (Jvm.FP.dcmp x y) o < (0 : Int32) := by
  rw [show Jvm.FP.dcmp x y = some (compare u v) from hx.cmp hy]
  rcases Int.lt_trichotomy u v with g | g | g
  · omega
  · rw [(compare_eq_iff _ _).mpr g]; cases o <;> decide
  · rw [(compare_gt_iff _ _).mpr g]; cases o <;> decide
theorem cv_pos {x y : UInt64} {u v : Int} (hx : V8 x u) (hy : V8 y v) (h : v < u) (o : Jvm.ClassFile.CmpOp) : (0 : Int32) < Jvm.Op.cmpValue (Jvm.FP.dcmp x y) o := by
  rw [show Jvm.FP.dcmp x y = some (compare u v) from hx.cmp hy, (compare_gt_iff _ _).mpr h]; cases o <;> decide
theorem fin_le {x : UInt64} {u : Int} (h : V8 x u) : ¬ (0 : Int32) < Jvm.Op.cmpValue (Jvm.FP.dcmp (x &&& 0x7fffffffffffffff) (9218868437227405311 : UInt64)) .g := by
  have hn : Jvm.FP.Core.dIsNaN x = false := Jvm.Free.Fl.noNaN64_no.mp h.nn
  obtain ⟨s, c, q, e, -⟩ := h
  have k := (le_max hn).mpr ⟨s, c, q, e⟩
  rcases k with k | k
  · rw [show Jvm.FP.dcmp (x &&& 0x7fffffffffffffff) (9218868437227405311 : UInt64) = some .lt from k]; decide
  · rw [show Jvm.FP.dcmp (x &&& 0x7fffffffffffffff) (9218868437227405311 : UInt64) = some .eq from k]; decide
end Jvm.Own8
namespace Jvm.Pilot.@@N@@
open Jvm Jvm.ClassFile Sem Op Lib Jvm.Free Jvm.Stand Jvm.LawKit Jvm.RoadKit Bundle Jvm.Pilot.@@N@@.Jvm.D
theorem tw {a0 : Array Value} {Z : State} (hw : ∀ d ∈ tables_1, d.before a0 Z = true) (i : Nat) {d : Cond} (h : tables_1[i]? = some d) : d.before a0 Z = true := hw d (List.mem_of_getElem? h)
set_option maxRecDepth 65536
set_option maxHeartbeats 40000000
abbrev mN0 : MethodName := ⟨"com/example/barrault/barrault/service/RevisitPolicy", "<init>", "(DDDDD)V"⟩
abbrev mN1 : MethodName := ⟨"com/example/barrault/barrault/service/RevisitPolicy", "waitAfter", "(DZ)D"⟩
abbrev mN2 : MethodName := ⟨"java/lang/Double", "isFinite", "(D)Z"⟩
abbrev mN3 : MethodName := ⟨"java/lang/Record", "<init>", "()V"⟩
open Jvm.Own8
theorem own_m (x : Int32) : 1 ≤ ((1 : Int64) + ((x &&& (1048575 : Int32)).toInt64)).toInt ∧ ((1 : Int64) + ((x &&& (1048575 : Int32)).toInt64)).toInt ≤ 1048576 := by
  have a := c_mask x (1048575 : Int32) 20 (by decide) (by decide)
  have b := c_ladd (1 : Int64) ((x &&& (1048575 : Int32)).toInt64)
  have r := rng64 ((1 : Int64) + ((x &&& (1048575 : Int32)).toInt64))
  rw [c_i2l] at b
  have o : (1 : Int64).toInt = 1 := by decide
  omega
theorem own_ad {m : Int64} (x : Int32) (hm : 0 ≤ m.toInt ∧ m.toInt ≤ 1099511627776) : m.toInt ≤ (m + ((x &&& (1048575 : Int32)).toInt64)).toInt ∧ (m + ((x &&& (1048575 : Int32)).toInt64)).toInt ≤ m.toInt + 1048575 := by
  have a := c_mask x (1048575 : Int32) 20 (by decide) (by decide)
  have b := c_ladd m ((x &&& (1048575 : Int32)).toInt64)
  have r := rng64 (m + ((x &&& (1048575 : Int32)).toInt64))
  rw [c_i2l] at b
  omega
theorem own_cf (x : Int32) : ((1 : Int64) <<< ((x &&& (3 : Int32)) &&& 0x3f).toInt64).toInt = 1 ∨ ((1 : Int64) <<< ((x &&& (3 : Int32)) &&& 0x3f).toInt64).toInt = 2 ∨ ((1 : Int64) <<< ((x &&& (3 : Int32)) &&& 0x3f).toInt64).toInt = 4 ∨ ((1 : Int64) <<< ((x &&& (3 : Int32)) &&& 0x3f).toInt64).toInt = 8 := by
  have a := c_mask x (3 : Int32) 2 (by decide) (by decide)
  have q : (x &&& (3 : Int32)).toInt = (0 : Int32).toInt ∨ (x &&& (3 : Int32)).toInt = (1 : Int32).toInt ∨ (x &&& (3 : Int32)).toInt = (2 : Int32).toInt ∨ (x &&& (3 : Int32)).toInt = (3 : Int32).toInt := by
    simp only [Int32.reduceToInt]; omega
  rcases q with q | q | q | q <;> (rw [Int32.toInt_inj.mp q]; decide)
theorem own_uf (y : Int32) : 1 ≤ ((1 : Int64) + ((y &&& (7 : Int32)).toInt64)).toInt ∧ ((1 : Int64) + ((y &&& (7 : Int32)).toInt64)).toInt ≤ 8 := by
  have a := c_mask y (7 : Int32) 3 (by decide) (by decide)
  have b := c_ladd (1 : Int64) ((y &&& (7 : Int32)).toInt64)
  have r := rng64 ((1 : Int64) + ((y &&& (7 : Int32)).toInt64))
  rw [c_i2l] at b
  have o : (1 : Int64).toInt = 1 := by decide
  omega
theorem own_chg {m c w : Int64} (hm : 1 ≤ m.toInt ∧ m.toInt ≤ 1048576) (hc : c.toInt = 1 ∨ c.toInt = 2 ∨ c.toInt = 4 ∨ c.toInt = 8) (hw : -2147483648 ≤ w.toInt ∧ w.toInt < 2147483648) :
    ∃ wk : Int, 8 * (8 * w.toInt) = wk * (8 * c.toInt) ∧ (-17179869184 ≤ wk ∧ wk ≤ 17179869184) ∧ (w.toInt < (m * c).toInt → wk < 8 * m.toInt) ∧ (¬ w.toInt < (m * c).toInt → 8 * m.toInt ≤ wk) := by
  have a := c_lmul m c
  have r := rng64 (m * c)
  rcases hc with e | e | e | e <;> rw [e] at a ⊢
  · exact ⟨8 * w.toInt, by omega, by omega, by omega, by omega⟩
  · exact ⟨4 * w.toInt, by omega, by omega, by omega, by omega⟩
  · exact ⟨2 * w.toInt, by omega, by omega, by omega, by omega⟩
  · exact ⟨w.toInt, by omega, by omega, by omega, by omega⟩
theorem own_unc {w u : Int64} (hw : -2147483648 ≤ w.toInt ∧ w.toInt < 2147483648) (hu : 1 ≤ u.toInt ∧ u.toInt ≤ 8) : (8 * w.toInt) * (8 * u.toInt) = 8 * (8 * (w * u).toInt) ∧ -17179869184 ≤ (w * u).toInt ∧ (w * u).toInt ≤ 17179869184 := by
  have a := c_lmul w u
  have r := rng64 (w * u)
  have h : u.toInt = 1 ∨ u.toInt = 2 ∨ u.toInt = 3 ∨ u.toInt = 4 ∨ u.toInt = 5 ∨ u.toInt = 6 ∨ u.toInt = 7 ∨ u.toInt = 8 := by omega
  have g : (8 * w.toInt) * (8 * u.toInt) = 8 * (8 * (w * u).toInt) := by
    rcases h with e | e | e | e | e | e | e | e <;> rw [e] at a ⊢ <;> omega
  refine ⟨g, ?_⟩
  clear a
  rcases h with e | e | e | e | e | e | e | e <;> rw [e] at g <;> constructor <;> omega
theorem lw_lt {a b : Int64} (h : lcmpW a b < (0 : Int32)) : a.toInt < b.toInt := by
  simp only [lcmpW] at h
  split at h
  · exact absurd h (by decide)
  · split at h
    · exact absurd h (by decide)
    · rename_i h1 h2
      have h1' : ¬ b.toInt < a.toInt := fun q => h1 (Int64.lt_iff_toInt_lt.mpr q)
      have h2' : a.toInt ≠ b.toInt := fun q => h2 (Int64.toInt_inj.mp q)
      omega
theorem lw_nlt {a b : Int64} (h : ¬ lcmpW a b < (0 : Int32)) : ¬ a.toInt < b.toInt := by
  intro q
  apply h
  simp only [lcmpW]
  rw [if_neg (fun g => by have := Int64.lt_iff_toInt_lt.mp g; omega), if_neg (fun g => by subst g; omega)]; decide
theorem lw_gt {a b : Int64} (h : (0 : Int32) < lcmpW a b) : b.toInt < a.toInt := by
  simp only [lcmpW] at h
  split at h
  · rename_i h1; exact Int64.lt_iff_toInt_lt.mp h1
  · split at h <;> exact absurd h (by decide)
theorem lw_ngt {a b : Int64} (h : ¬ (0 : Int32) < lcmpW a b) : ¬ b.toInt < a.toInt := by
  intro q
  apply h
  simp only [lcmpW]
  rw [if_pos (Int64.lt_iff_toInt_lt.mpr q)]; decide
theorem pf_4 : plainFor mN2 = true := plainFor_of_name (by first | (simp [plainName, overriddenIn]; done) | decide +kernel)
theorem d4_0 : decode jdk_117_method_8_code 0 = .ok (.dload_n 0, 1) := by decide +kernel
theorem d4_1 : decode jdk_117_method_8_code 1 = .ok (.invokestatic 38, 3) := by decide +kernel
theorem d4_4 : decode jdk_117_method_8_code 4 = .ok (.ldc2_w 111, 3) := by decide +kernel
theorem d4_7 : decode jdk_117_method_8_code 7 = .ok (.dcmp .g, 1) := by decide +kernel
theorem d4_8 : decode jdk_117_method_8_code 8 = .ok (.ifCond .gt 7, 3) := by decide +kernel
theorem d4_11 : decode jdk_117_method_8_code 11 = .ok (.iconst 1, 1) := by decide +kernel
theorem d4_12 : decode jdk_117_method_8_code 12 = .ok (.goto 4, 3) := by decide +kernel
theorem d4_16 : decode jdk_117_method_8_code 16 = .ok (.ireturn, 1) := by decide +kernel
def Q_isF (Z : State) (x : UInt64) (u : Int) (h0 : Heap) (rv : Option Value) (h : Heap) (L : List Loc) : Prop := rv = some (.int (1 : Int32)) ∧ L = [] ∧ h = h0
theorem rm_isF (l : Launch) (Z : State) (a0 : Array Value) (hw : ∀ d ∈ tables_1, d.before a0 Z = true) (x : UInt64) (u : Int) (h0 : Heap) (O0 : Ext Z.heap h0) (hx : V8 x u) :
    Met1 l Z mN2 jdk_117_method_8_code 2 (some .boolean) ({ frames := 1, cells := 0, slots := 0, locals := 13 } : Room) #[(.double x)] h0 (Q_isF Z x u h0) := by
  refine Met1.of_body (Ls := #[.val (.double x), .second]) pf_4 (fun m => by first | (simp [entryFrame, mkF, argsToLocals, Value.category]; done) | rfl) ?_
  intro p e s m below meth c T0 C X0 e0
  have N0 : Fr Z.heap.size [] := Fr.nil _
  refine Go.dloadN (pc' := 1) C X0 d4_0 rfl rfl ?_
  refine Go.absD (W := 0) (pc' := 4) C X0 (tw hw 19 rfl) (tw hw 20 rfl) (tw hw 21 rfl) (tw hw 22 rfl) e0 (V8.nn hx) rfl (by decide) (Nat.le_of_eq rfl) (by decide) (by decide) (by decide) d4_1 rfl ?_
  intro T101 X101 e101
  refine Go.ldc2D (pc' := 7) C X101 d4_4 (tw hw 23 rfl) rfl ?_
  refine Go.dcmp (v := (cmpValue (FP.dcmp (x &&& 0x7fffffffffffffff) (9218868437227405311 : UInt64)) .g)) (pc' := 8) C X101 d4_7 rfl rfl ?_
  refine Go.ifNo (pc' := 11) C X101 d4_8 ((if0 _ _).trans (flt (x := (0 : Int32)) (y := (cmpValue (FP.dcmp (x &&& 0x7fffffffffffffff) (9218868437227405311 : UInt64)) .g)) (fin_le hx)).2.2.1) rfl ?_
  refine Go.iconst (z := (1 : Int32)) (pc' := 12) C X101 d4_11 rfl rfl ?_
  refine Go.goto (pc' := 16) C X101 d4_12 (by decide) (by decide) ?_
  exact Go.retN C X101 rfl d4_16 (by simp) (by rw [e101]; exact ⟨rfl, rfl, rfl⟩) (by decide) (by decide)
theorem pf_2 : plainFor mN3 = true := plainFor_of_name (by first | (simp [plainName, overriddenIn]; done) | decide +kernel)
theorem d2_0 : decode jdk_30_method_1_code 0 = .ok (.aload_n 0, 1) := by decide +kernel
theorem d2_1 : decode jdk_30_method_1_code 1 = .ok (.invokespecial 1, 3) := by decide +kernel
theorem d2_4 : decode jdk_30_method_1_code 4 = .ok (.return_, 1) := by decide +kernel
def Q_recI (Z : State) (b : Addr) (h0 : Heap) (rv : Option Value) (h : Heap) (L : List Loc) : Prop := rv = none ∧ L = [] ∧ h = h0
theorem rm_recI (l : Launch) (Z : State) (a0 : Array Value) (hw : ∀ d ∈ tables_1, d.before a0 Z = true) (b : Addr) (h0 : Heap) (O0 : Ext Z.heap h0) :
    Met1 l Z mN3 jdk_30_method_1_code 1 none ({ frames := 1, cells := 0, slots := 0, locals := 12 } : Room) #[(.ref b)] h0 (Q_recI Z b h0) := by
  refine Met1.of_body (Ls := #[.val (.ref b)]) pf_2 (fun m => by first | (simp [entryFrame, mkF, argsToLocals, Value.category]; done) | rfl) ?_
  intro p e s m below meth c T0 C X0 e0
  have N0 : Fr Z.heap.size [] := Fr.nil _
  refine Go.aloadN (pc' := 1) C X0 d2_0 rfl rfl rfl ?_
  refine Go.initO (pc' := 4) (W := 0) C X0 (tw hw 12 rfl) (tw hw 13 rfl) (tw hw 14 rfl) e0 rfl (by decide) (Nat.le_of_eq rfl) (by decide) d2_1 rfl ?_
  intro T101 X101 e101
  exact Go.retV C X101 rfl d2_4 (by rw [e101]; exact ⟨rfl, rfl, rfl⟩) (by decide) (by decide)
theorem pd_0 : parseMethodDescriptor "()V" = some ⟨[], none⟩ := by decide +kernel
theorem pd_1 : parseMethodDescriptor "(D)Z" = some ⟨[.double], some .boolean⟩ := by decide +kernel
theorem pf_1 : plainFor mN0 = true := plainFor_of_name (by first | (simp [plainName, overriddenIn]; done) | decide +kernel)
theorem d1_0 : decode prog_57_method_1_code 0 = .ok (.aload_n 0, 1) := by decide +kernel
theorem d1_1 : decode prog_57_method_1_code 1 = .ok (.invokespecial 1, 3) := by decide +kernel
theorem d1_4 : decode prog_57_method_1_code 4 = .ok (.dload_n 3, 1) := by decide +kernel
theorem d1_5 : decode prog_57_method_1_code 5 = .ok (.invokestatic 7, 3) := by decide +kernel
theorem d1_8 : decode prog_57_method_1_code 8 = .ok (.ifCond .eq 22, 3) := by decide +kernel
theorem d1_11 : decode prog_57_method_1_code 11 = .ok (.dload_n 1, 1) := by decide +kernel
theorem d1_12 : decode prog_57_method_1_code 12 = .ok (.invokestatic 7, 3) := by decide +kernel
theorem d1_15 : decode prog_57_method_1_code 15 = .ok (.ifCond .eq 15, 3) := by decide +kernel
theorem d1_18 : decode prog_57_method_1_code 18 = .ok (.dload 5, 2) := by decide +kernel
theorem d1_20 : decode prog_57_method_1_code 20 = .ok (.invokestatic 7, 3) := by decide +kernel
theorem d1_23 : decode prog_57_method_1_code 23 = .ok (.ifCond .eq 7, 3) := by decide +kernel
theorem d1_26 : decode prog_57_method_1_code 26 = .ok (.iconst 1, 1) := by decide +kernel
theorem d1_27 : decode prog_57_method_1_code 27 = .ok (.goto 4, 3) := by decide +kernel
theorem d1_31 : decode prog_57_method_1_code 31 = .ok (.istore 11, 2) := by decide +kernel
theorem d1_33 : decode prog_57_method_1_code 33 = .ok (.iload 11, 2) := by decide +kernel
theorem d1_35 : decode prog_57_method_1_code 35 = .ok (.ifCond .eq 22, 3) := by decide +kernel
theorem d1_38 : decode prog_57_method_1_code 38 = .ok (.dload_n 3, 1) := by decide +kernel
theorem d1_39 : decode prog_57_method_1_code 39 = .ok (.dconst 0, 1) := by decide +kernel
theorem d1_40 : decode prog_57_method_1_code 40 = .ok (.dcmp .l, 1) := by decide +kernel
theorem d1_41 : decode prog_57_method_1_code 41 = .ok (.ifCond .le 16, 3) := by decide +kernel
theorem d1_44 : decode prog_57_method_1_code 44 = .ok (.dload_n 1, 1) := by decide +kernel
theorem d1_45 : decode prog_57_method_1_code 45 = .ok (.dload_n 3, 1) := by decide +kernel
theorem d1_46 : decode prog_57_method_1_code 46 = .ok (.dcmp .g, 1) := by decide +kernel
theorem d1_47 : decode prog_57_method_1_code 47 = .ok (.ifCond .lt 10, 3) := by decide +kernel
theorem d1_50 : decode prog_57_method_1_code 50 = .ok (.dload 5, 2) := by decide +kernel
theorem d1_52 : decode prog_57_method_1_code 52 = .ok (.dload_n 1, 1) := by decide +kernel
theorem d1_53 : decode prog_57_method_1_code 53 = .ok (.dcmp .g, 1) := by decide +kernel
theorem d1_54 : decode prog_57_method_1_code 54 = .ok (.ifCond .ge 20, 3) := by decide +kernel
theorem d1_74 : decode prog_57_method_1_code 74 = .ok (.dload 7, 2) := by decide +kernel
theorem d1_76 : decode prog_57_method_1_code 76 = .ok (.dconst 1, 1) := by decide +kernel
theorem d1_77 : decode prog_57_method_1_code 77 = .ok (.dcmp .l, 1) := by decide +kernel
theorem d1_78 : decode prog_57_method_1_code 78 = .ok (.ifCond .lt 10, 3) := by decide +kernel
theorem d1_81 : decode prog_57_method_1_code 81 = .ok (.dload 9, 2) := by decide +kernel
theorem d1_83 : decode prog_57_method_1_code 83 = .ok (.dconst 1, 1) := by decide +kernel
theorem d1_84 : decode prog_57_method_1_code 84 = .ok (.dcmp .l, 1) := by decide +kernel
theorem d1_85 : decode prog_57_method_1_code 85 = .ok (.ifCond .ge 20, 3) := by decide +kernel
theorem d1_105 : decode prog_57_method_1_code 105 = .ok (.aload_n 0, 1) := by decide +kernel
theorem d1_106 : decode prog_57_method_1_code 106 = .ok (.dload_n 1, 1) := by decide +kernel
theorem d1_107 : decode prog_57_method_1_code 107 = .ok (.putfield 25, 3) := by decide +kernel
theorem d1_110 : decode prog_57_method_1_code 110 = .ok (.aload_n 0, 1) := by decide +kernel
theorem d1_111 : decode prog_57_method_1_code 111 = .ok (.dload_n 3, 1) := by decide +kernel
theorem d1_112 : decode prog_57_method_1_code 112 = .ok (.putfield 31, 3) := by decide +kernel
theorem d1_115 : decode prog_57_method_1_code 115 = .ok (.aload_n 0, 1) := by decide +kernel
theorem d1_116 : decode prog_57_method_1_code 116 = .ok (.dload 5, 2) := by decide +kernel
theorem d1_118 : decode prog_57_method_1_code 118 = .ok (.putfield 34, 3) := by decide +kernel
theorem d1_121 : decode prog_57_method_1_code 121 = .ok (.aload_n 0, 1) := by decide +kernel
theorem d1_122 : decode prog_57_method_1_code 122 = .ok (.dload 7, 2) := by decide +kernel
theorem d1_124 : decode prog_57_method_1_code 124 = .ok (.putfield 37, 3) := by decide +kernel
theorem d1_127 : decode prog_57_method_1_code 127 = .ok (.aload_n 0, 1) := by decide +kernel
theorem d1_128 : decode prog_57_method_1_code 128 = .ok (.dload 9, 2) := by decide +kernel
theorem d1_130 : decode prog_57_method_1_code 130 = .ok (.putfield 40, 3) := by decide +kernel
theorem d1_133 : decode prog_57_method_1_code 133 = .ok (.return_, 1) := by decide +kernel
def Q_ini (Z : State) (b : Addr) (x1 : UInt64) (x2 : UInt64) (x3 : UInt64) (x4 : UInt64) (x5 : UInt64) (u1 : Int) (u2 : Int) (u3 : Int) (u4 : Int) (u5 : Int) (h0 : Heap) (rv : Option Value) (h : Heap) (L : List Loc) : Prop := rv = none ∧ Fr Z.heap.size L ∧ Keep h0 h [b] ∧ Fld Z h b "com/example/barrault/barrault/service/RevisitPolicy" "initialWait" "D" (.double x1) ∧ Fld Z h b "com/example/barrault/barrault/service/RevisitPolicy" "minWait" "D" (.double x2) ∧ Fld Z h b "com/example/barrault/barrault/service/RevisitPolicy" "maxWait" "D" (.double x3) ∧ Fld Z h b "com/example/barrault/barrault/service/RevisitPolicy" "changedFactor" "D" (.double x4) ∧ Fld Z h b "com/example/barrault/barrault/service/RevisitPolicy" "unchangedFactor" "D" (.double x5)
theorem rm_ini (l : Launch) (Z : State) (a0 : Array Value) (hw : ∀ d ∈ tables_1, d.before a0 Z = true) (b : Addr) (x1 : UInt64) (x2 : UInt64) (x3 : UInt64) (x4 : UInt64) (x5 : UInt64) (u1 : Int) (u2 : Int) (u3 : Int) (u4 : Int) (u5 : Int) (h0 : Heap) (O0 : Ext Z.heap h0) (E0 : Exa Z h0 b "com/example/barrault/barrault/service/RevisitPolicy") (F1 : Fld Z h0 b "com/example/barrault/barrault/service/RevisitPolicy" "initialWait" "D" (.double (0 : UInt64))) (F2 : Fld Z h0 b "com/example/barrault/barrault/service/RevisitPolicy" "minWait" "D" (.double (0 : UInt64))) (F3 : Fld Z h0 b "com/example/barrault/barrault/service/RevisitPolicy" "maxWait" "D" (.double (0 : UInt64))) (F4 : Fld Z h0 b "com/example/barrault/barrault/service/RevisitPolicy" "changedFactor" "D" (.double (0 : UInt64))) (F5 : Fld Z h0 b "com/example/barrault/barrault/service/RevisitPolicy" "unchangedFactor" "D" (.double (0 : UInt64))) (hn : Z.heap.size ≤ b) (v1 : V8 x1 u1) (v2 : V8 x2 u2) (v3 : V8 x3 u3) (v4 : V8 x4 u4) (v5 : V8 x5 u5) (h2 : 0 < u2) (h12 : u2 ≤ u1) (h13 : u1 ≤ u3) (h4 : 8 ≤ u4) (h5 : 8 ≤ u5) :
    Met1 l Z mN0 prog_57_method_1_code 12 none ({ frames := 2, cells := 0, slots := 0, locals := 26 } : Room) #[(.ref b), (.double x1), (.double x2), (.double x3), (.double x4), (.double x5)] h0 (Q_ini Z b x1 x2 x3 x4 x5 u1 u2 u3 u4 u5 h0) := by
  refine Met1.of_body (Ls := #[.val (.ref b), .val (.double x1), .second, .val (.double x2), .second, .val (.double x3), .second, .val (.double x4), .second, .val (.double x5), .second, .unset]) pf_1 (fun m => by first | (simp [entryFrame, mkF, argsToLocals, Value.category]; done) | rfl) ?_
  intro p e s m below meth c T0 C X0 e0
  have N0 : Fr Z.heap.size [] := Fr.nil _
  refine Go.aloadN (pc' := 1) C X0 d1_0 rfl rfl rfl ?_
  refine Go.callI (y := mN3) (a := b) (pc' := 4) C X0 rfl (tw hw 7 rfl) (tw hw 8 rfl) (by decide) (rm_recI l Z a0 hw b h0 O0 ) (tw hw 11 rfl) (tw hw 10 rfl) e0 (argsL := []) (rest := []) (W := 0) rfl rfl pd_0 rfl (Nat.le_of_eq rfl) rfl (by decide) (by decide) (by decide) (by decide) rfl d1_1 rfl ?_
  intro T101 v101 L101 X101 q101
  obtain ⟨rfl, rfl, e101⟩ := q101
  have N101 := Fr.app N0 (Fr.nil _)
  refine Go.dloadN (pc' := 5) C X101 d1_4 rfl rfl ?_
  refine Go.callS (y := mN2) (pc' := 8) C X101 (tw hw 15 rfl) (tw hw 16 rfl) (by decide) (rm_isF l Z a0 hw x2 u2 h0 O0 v2) (tw hw 18 rfl) (tw hw 17 rfl) e101 (argsL := [(.double x2)]) (rest := []) (W := 0) rfl rfl pd_1 rfl (Nat.le_of_eq rfl) rfl (by decide) (by decide) (by decide) (by decide) d1_5 rfl ?_
  intro T102 v102 L102 X102 q102
  obtain ⟨rfl, rfl, e102⟩ := q102
  have N102 := Fr.app N101 (Fr.nil _)
  refine Go.ifNo (pc' := 11) C X102 d1_8 ((if0 _ _).trans (feq (x := (1 : Int32)) (y := (0 : Int32)) (by decide)).1) rfl ?_
  refine Go.dloadN (pc' := 12) C X102 d1_11 rfl rfl ?_
  refine Go.callS (y := mN2) (pc' := 15) C X102 (tw hw 15 rfl) (tw hw 16 rfl) (by decide) (rm_isF l Z a0 hw x1 u1 h0 O0 v1) (tw hw 18 rfl) (tw hw 17 rfl) e102 (argsL := [(.double x1)]) (rest := []) (W := 0) rfl rfl pd_1 rfl (Nat.le_of_eq rfl) rfl (by decide) (by decide) (by decide) (by decide) d1_12 rfl ?_
  intro T104 v104 L104 X104 q104
  obtain ⟨rfl, rfl, e104⟩ := q104
  have N104 := Fr.app N102 (Fr.nil _)
  refine Go.ifNo (pc' := 18) C X104 d1_15 ((if0 _ _).trans (feq (x := (1 : Int32)) (y := (0 : Int32)) (by decide)).1) rfl ?_
  refine Go.dload (pc' := 20) C X104 d1_18 rfl rfl ?_
  refine Go.callS (y := mN2) (pc' := 23) C X104 (tw hw 15 rfl) (tw hw 16 rfl) (by decide) (rm_isF l Z a0 hw x3 u3 h0 O0 v3) (tw hw 18 rfl) (tw hw 17 rfl) e104 (argsL := [(.double x3)]) (rest := []) (W := 0) rfl rfl pd_1 rfl (Nat.le_of_eq rfl) rfl (by decide) (by decide) (by decide) (by decide) d1_20 rfl ?_
  intro T106 v106 L106 X106 q106
  obtain ⟨rfl, rfl, e106⟩ := q106
  have N106 := Fr.app N104 (Fr.nil _)
  refine Go.ifNo (pc' := 26) C X106 d1_23 ((if0 _ _).trans (feq (x := (1 : Int32)) (y := (0 : Int32)) (by decide)).1) rfl ?_
  refine Go.iconst (z := (1 : Int32)) (pc' := 27) C X106 d1_26 rfl rfl ?_
  refine Go.goto (pc' := 31) C X106 d1_27 (by decide) (by decide) ?_
  refine Go.istore (Ls' := #[.val (.ref b), .val (.double x1), .second, .val (.double x2), .second, .val (.double x3), .second, .val (.double x4), .second, .val (.double x5), .second, .val (.int (1 : Int32))]) (pc' := 33) C X106 d1_31 rfl rfl ?_
  refine Go.iload (pc' := 35) C X106 d1_33 rfl rfl ?_
  refine Go.ifNo (pc' := 38) C X106 d1_35 ((if0 _ _).trans (feq (x := (1 : Int32)) (y := (0 : Int32)) (by decide)).1) rfl ?_
  refine Go.dloadN (pc' := 39) C X106 d1_38 rfl rfl ?_
  refine Go.dconst0 (pc' := 40) C X106 d1_39 rfl ?_
  refine Go.dcmp (v := (cmpValue (FP.dcmp x2 FP.dconst0) .l)) (pc' := 41) C X106 d1_40 rfl rfl ?_
  refine Go.ifNo (pc' := 44) C X106 d1_41 ((if0 _ _).trans (tlt (x := (0 : Int32)) (y := (cmpValue (FP.dcmp x2 FP.dconst0) .l)) (cv_pos v2 V8.zero (by omega) _)).2.2.2) rfl ?_
  refine Go.dloadN (pc' := 45) C X106 d1_44 rfl rfl ?_
  refine Go.dloadN (pc' := 46) C X106 d1_45 rfl rfl ?_
  refine Go.dcmp (v := (cmpValue (FP.dcmp x1 x2) .g)) (pc' := 47) C X106 d1_46 rfl rfl ?_
  refine Go.ifNo (pc' := 50) C X106 d1_47 ((if0 _ _).trans (flt (x := (cmpValue (FP.dcmp x1 x2) .g)) (y := (0 : Int32)) (cv_nlt v1 v2 (by omega) _)).1) rfl ?_
  refine Go.dload (pc' := 52) C X106 d1_50 rfl rfl ?_
  refine Go.dloadN (pc' := 53) C X106 d1_52 rfl rfl ?_
  refine Go.dcmp (v := (cmpValue (FP.dcmp x3 x1) .g)) (pc' := 54) C X106 d1_53 rfl rfl ?_
  refine Go.ifYes (pc' := 74) C X106 d1_54 ((if0 _ _).trans (flt (x := (cmpValue (FP.dcmp x3 x1) .g)) (y := (0 : Int32)) (cv_nlt v3 v1 (by omega) _)).2.1) (by decide) (by decide) ?_
  refine Go.dload (pc' := 76) C X106 d1_74 rfl rfl ?_
  refine Go.dconst1 (pc' := 77) C X106 d1_76 rfl ?_
  refine Go.dcmp (v := (cmpValue (FP.dcmp x4 FP.dconst1) .l)) (pc' := 78) C X106 d1_77 rfl rfl ?_
  refine Go.ifNo (pc' := 81) C X106 d1_78 ((if0 _ _).trans (flt (x := (cmpValue (FP.dcmp x4 FP.dconst1) .l)) (y := (0 : Int32)) (cv_nlt v4 V8.one (by omega) _)).1) rfl ?_
  refine Go.dload (pc' := 83) C X106 d1_81 rfl rfl ?_
  refine Go.dconst1 (pc' := 84) C X106 d1_83 rfl ?_
  refine Go.dcmp (v := (cmpValue (FP.dcmp x5 FP.dconst1) .l)) (pc' := 85) C X106 d1_84 rfl rfl ?_
  refine Go.ifYes (pc' := 105) C X106 d1_85 ((if0 _ _).trans (flt (x := (cmpValue (FP.dcmp x5 FP.dconst1) .l)) (y := (0 : Int32)) (cv_nlt v5 V8.one (by omega) _)).2.1) (by decide) (by decide) ?_
  refine Go.aloadN (pc' := 106) C X106 d1_105 rfl rfl rfl ?_
  refine Go.dloadN (pc' := 107) C X106 d1_106 rfl rfl ?_
  refine Go.putF (pc' := 110) (host := "") (ty := .double) C X106 (Or.inl (tw hw 24 rfl)) Via.refl e106 F1 E0 (Or.inr ⟨(tw hw 25 rfl), rfl, rfl⟩) (tw hw 2 rfl) (by decide) rfl rfl d1_107 rfl ?_
  intro T114 h114 X114 e114 W114 F114
  have N114 := Fr.snoc X114 N106 hn
  refine Go.aloadN (pc' := 111) C X114 d1_110 rfl rfl rfl ?_
  refine Go.dloadN (pc' := 112) C X114 d1_111 rfl rfl ?_
  have c116 : Fld Z h114 b "com/example/barrault/barrault/service/RevisitPolicy" "minWait" "D" (.double (0 : UInt64)) := (Fld.other W114 F2 (Or.inr (slot_ne (Or.inr (tw hw 27 rfl)) (Or.inr (tw hw 25 rfl)) (by decide) (t := .double) (t' := .double) (by decide) (by decide))))
  have c117 : Exa Z h114 b "com/example/barrault/barrault/service/RevisitPolicy" := (Exa.wr W114 E0)
  refine Go.putF (pc' := 115) (host := "") (ty := .double) C X114 (Or.inl (tw hw 26 rfl)) Via.refl e114 c116 c117 (Or.inr ⟨(tw hw 27 rfl), rfl, rfl⟩) (tw hw 2 rfl) (by decide) rfl rfl d1_112 rfl ?_
  intro T115 h115 X115 e115 W115 F115
  have N115 := Fr.snoc X115 N114 hn
  refine Go.aloadN (pc' := 116) C X115 d1_115 rfl rfl rfl ?_
  refine Go.dload (pc' := 118) C X115 d1_116 rfl rfl ?_
  have c119 : Fld Z h115 b "com/example/barrault/barrault/service/RevisitPolicy" "maxWait" "D" (.double (0 : UInt64)) := (Fld.other W115 (Fld.other W114 F3 (Or.inr (slot_ne (Or.inr (tw hw 29 rfl)) (Or.inr (tw hw 25 rfl)) (by decide) (t := .double) (t' := .double) (by decide) (by decide)))) (Or.inr (slot_ne (Or.inr (tw hw 29 rfl)) (Or.inr (tw hw 27 rfl)) (by decide) (t := .double) (t' := .double) (by decide) (by decide))))
  have c120 : Exa Z h115 b "com/example/barrault/barrault/service/RevisitPolicy" := (Exa.wr W115 c117)
  refine Go.putF (pc' := 121) (host := "") (ty := .double) C X115 (Or.inl (tw hw 28 rfl)) Via.refl e115 c119 c120 (Or.inr ⟨(tw hw 29 rfl), rfl, rfl⟩) (tw hw 2 rfl) (by decide) rfl rfl d1_118 rfl ?_
  intro T118 h118 X118 e118 W118 F118
  have N118 := Fr.snoc X118 N115 hn
  refine Go.aloadN (pc' := 122) C X118 d1_121 rfl rfl rfl ?_
  refine Go.dload (pc' := 124) C X118 d1_122 rfl rfl ?_
  have c122 : Fld Z h118 b "com/example/barrault/barrault/service/RevisitPolicy" "changedFactor" "D" (.double (0 : UInt64)) := (Fld.other W118 (Fld.other W115 (Fld.other W114 F4 (Or.inr (slot_ne (Or.inr (tw hw 31 rfl)) (Or.inr (tw hw 25 rfl)) (by decide) (t := .double) (t' := .double) (by decide) (by decide)))) (Or.inr (slot_ne (Or.inr (tw hw 31 rfl)) (Or.inr (tw hw 27 rfl)) (by decide) (t := .double) (t' := .double) (by decide) (by decide)))) (Or.inr (slot_ne (Or.inr (tw hw 31 rfl)) (Or.inr (tw hw 29 rfl)) (by decide) (t := .double) (t' := .double) (by decide) (by decide))))
  have c123 : Exa Z h118 b "com/example/barrault/barrault/service/RevisitPolicy" := (Exa.wr W118 c120)
  refine Go.putF (pc' := 127) (host := "") (ty := .double) C X118 (Or.inl (tw hw 30 rfl)) Via.refl e118 c122 c123 (Or.inr ⟨(tw hw 31 rfl), rfl, rfl⟩) (tw hw 2 rfl) (by decide) rfl rfl d1_124 rfl ?_
  intro T121 h121 X121 e121 W121 F121
  have N121 := Fr.snoc X121 N118 hn
  refine Go.aloadN (pc' := 128) C X121 d1_127 rfl rfl rfl ?_
  refine Go.dload (pc' := 130) C X121 d1_128 rfl rfl ?_
  have c125 : Fld Z h121 b "com/example/barrault/barrault/service/RevisitPolicy" "unchangedFactor" "D" (.double (0 : UInt64)) := (Fld.other W121 (Fld.other W118 (Fld.other W115 (Fld.other W114 F5 (Or.inr (slot_ne (Or.inr (tw hw 33 rfl)) (Or.inr (tw hw 25 rfl)) (by decide) (t := .double) (t' := .double) (by decide) (by decide)))) (Or.inr (slot_ne (Or.inr (tw hw 33 rfl)) (Or.inr (tw hw 27 rfl)) (by decide) (t := .double) (t' := .double) (by decide) (by decide)))) (Or.inr (slot_ne (Or.inr (tw hw 33 rfl)) (Or.inr (tw hw 29 rfl)) (by decide) (t := .double) (t' := .double) (by decide) (by decide)))) (Or.inr (slot_ne (Or.inr (tw hw 33 rfl)) (Or.inr (tw hw 31 rfl)) (by decide) (t := .double) (t' := .double) (by decide) (by decide))))
  have c126 : Exa Z h121 b "com/example/barrault/barrault/service/RevisitPolicy" := (Exa.wr W121 c123)
  refine Go.putF (pc' := 133) (host := "") (ty := .double) C X121 (Or.inl (tw hw 32 rfl)) Via.refl e121 c125 c126 (Or.inr ⟨(tw hw 33 rfl), rfl, rfl⟩) (tw hw 2 rfl) (by decide) rfl rfl d1_130 rfl ?_
  intro T124 h124 X124 e124 W124 F124
  have N124 := Fr.snoc X124 N121 hn
  have K127 : Keep h0 h124 [b] := ((((((Keep.refl h0 [b]).wr W114 (Or.inl (by simp))).wr W115 (Or.inl (by simp))).wr W118 (Or.inl (by simp))).wr W121 (Or.inl (by simp))).wr W124 (Or.inl (by simp)))
  have c128 : Fld Z h124 b "com/example/barrault/barrault/service/RevisitPolicy" "initialWait" "D" (.double x1) := (Fld.other W124 (Fld.other W121 (Fld.other W118 (Fld.other W115 F114 (Or.inr (slot_ne (Or.inr (tw hw 25 rfl)) (Or.inr (tw hw 27 rfl)) (by decide) (t := .double) (t' := .double) (by decide) (by decide)))) (Or.inr (slot_ne (Or.inr (tw hw 25 rfl)) (Or.inr (tw hw 29 rfl)) (by decide) (t := .double) (t' := .double) (by decide) (by decide)))) (Or.inr (slot_ne (Or.inr (tw hw 25 rfl)) (Or.inr (tw hw 31 rfl)) (by decide) (t := .double) (t' := .double) (by decide) (by decide)))) (Or.inr (slot_ne (Or.inr (tw hw 25 rfl)) (Or.inr (tw hw 33 rfl)) (by decide) (t := .double) (t' := .double) (by decide) (by decide))))
  have c129 : Fld Z h124 b "com/example/barrault/barrault/service/RevisitPolicy" "minWait" "D" (.double x2) := (Fld.other W124 (Fld.other W121 (Fld.other W118 F115 (Or.inr (slot_ne (Or.inr (tw hw 27 rfl)) (Or.inr (tw hw 29 rfl)) (by decide) (t := .double) (t' := .double) (by decide) (by decide)))) (Or.inr (slot_ne (Or.inr (tw hw 27 rfl)) (Or.inr (tw hw 31 rfl)) (by decide) (t := .double) (t' := .double) (by decide) (by decide)))) (Or.inr (slot_ne (Or.inr (tw hw 27 rfl)) (Or.inr (tw hw 33 rfl)) (by decide) (t := .double) (t' := .double) (by decide) (by decide))))
  have c130 : Fld Z h124 b "com/example/barrault/barrault/service/RevisitPolicy" "maxWait" "D" (.double x3) := (Fld.other W124 (Fld.other W121 F118 (Or.inr (slot_ne (Or.inr (tw hw 29 rfl)) (Or.inr (tw hw 31 rfl)) (by decide) (t := .double) (t' := .double) (by decide) (by decide)))) (Or.inr (slot_ne (Or.inr (tw hw 29 rfl)) (Or.inr (tw hw 33 rfl)) (by decide) (t := .double) (t' := .double) (by decide) (by decide))))
  have c131 : Fld Z h124 b "com/example/barrault/barrault/service/RevisitPolicy" "changedFactor" "D" (.double x4) := (Fld.other W124 F121 (Or.inr (slot_ne (Or.inr (tw hw 31 rfl)) (Or.inr (tw hw 33 rfl)) (by decide) (t := .double) (t' := .double) (by decide) (by decide))))
  exact Go.retV C X124 rfl d1_133 (by rw [e124]; exact ⟨rfl, N124, K127, c128, c129, c130, c131, F124⟩) (by decide) (by decide)
theorem pf_6 : plainFor mN1 = true := plainFor_of_name (by first | (simp [plainName, overriddenIn]; done) | decide +kernel)
theorem d6_0 : decode prog_57_method_2_code 0 = .ok (.iload_n 3, 1) := by decide +kernel
theorem d6_1 : decode prog_57_method_2_code 1 = .ok (.ifCond .eq 21, 3) := by decide +kernel
theorem d6_4 : decode prog_57_method_2_code 4 = .ok (.aload_n 0, 1) := by decide +kernel
theorem d6_5 : decode prog_57_method_2_code 5 = .ok (.getfield 31, 3) := by decide +kernel
theorem d6_8 : decode prog_57_method_2_code 8 = .ok (.dload_n 1, 1) := by decide +kernel
theorem d6_9 : decode prog_57_method_2_code 9 = .ok (.aload_n 0, 1) := by decide +kernel
theorem d6_10 : decode prog_57_method_2_code 10 = .ok (.getfield 37, 3) := by decide +kernel
theorem d6_13 : decode prog_57_method_2_code 13 = .ok (.ddiv, 1) := by decide +kernel
theorem d6_14 : decode prog_57_method_2_code 14 = .ok (.invokestatic 43, 3) := by decide +kernel
theorem d6_17 : decode prog_57_method_2_code 17 = .ok (.dstore 4, 2) := by decide +kernel
theorem d6_19 : decode prog_57_method_2_code 19 = .ok (.goto 18, 3) := by decide +kernel
theorem d6_37 : decode prog_57_method_2_code 37 = .ok (.dload 4, 2) := by decide +kernel
theorem d6_39 : decode prog_57_method_2_code 39 = .ok (.dreturn, 1) := by decide +kernel
def Q_wt1 (Z : State) (b : Addr) (ex : UInt64) (ue : Int) (wq : Int) (x2 : UInt64) (u2 : Int) (x4 : UInt64) (u4 : Int) (h0 : Heap) (rv : Option Value) (h : Heap) (L : List Loc) : Prop := ∃ rr : UInt64, rv = some (.double rr) ∧ L = [] ∧ h = h0 ∧ (V8 rr (if u2 < wq then wq else u2))
theorem rm_wt1 (l : Launch) (Z : State) (a0 : Array Value) (hw : ∀ d ∈ tables_1, d.before a0 Z = true) (b : Addr) (ex : UInt64) (ue : Int) (wq : Int) (x2 : UInt64) (u2 : Int) (x4 : UInt64) (u4 : Int) (h0 : Heap) (O0 : Ext Z.heap h0) (F2 : Fld Z h0 b "com/example/barrault/barrault/service/RevisitPolicy" "minWait" "D" (.double x2)) (F4 : Fld Z h0 b "com/example/barrault/barrault/service/RevisitPolicy" "changedFactor" "D" (.double x4)) (ve : V8 ex ue) (v2 : V8 x2 u2) (v4 : V8 x4 u4) (h4 : u4 ≠ 0) (hq : 8 * ue = wq * u4) (hwq : wq.natAbs < 9007199254740992) :
    Met1 l Z mN1 prog_57_method_2_code 6 (some .double) ({ frames := 1, cells := 0, slots := 0, locals := 15 } : Room) #[(.ref b), (.double ex), (.int (1 : Int32))] h0 (Q_wt1 Z b ex ue wq x2 u2 x4 u4 h0) := by
  refine Met1.of_body (Ls := #[.val (.ref b), .val (.double ex), .second, .val (.int (1 : Int32)), .unset, .unset]) pf_6 (fun m => by first | (simp [entryFrame, mkF, argsToLocals, Value.category]; done) | rfl) ?_
  intro p e s m below meth c T0 C X0 e0
  have N0 : Fr Z.heap.size [] := Fr.nil _
  refine Go.iloadN (pc' := 1) C X0 d6_0 rfl rfl ?_
  refine Go.ifNo (pc' := 4) C X0 d6_1 ((if0 _ _).trans (feq (x := (1 : Int32)) (y := (0 : Int32)) (by decide)).1) rfl ?_
  refine Go.aloadN (pc' := 5) C X0 d6_4 rfl rfl rfl ?_
  refine Go.getF (pc' := 8) (host := "") C X0 (Or.inl (tw hw 26 rfl)) Via.refl e0 F2 d6_5 rfl ?_
  intro T102 X102 e102
  refine Go.dloadN (pc' := 9) C X102 d6_8 rfl rfl ?_
  refine Go.aloadN (pc' := 10) C X102 d6_9 rfl rfl rfl ?_
  refine Go.getF (pc' := 13) (host := "") C X102 (Or.inl (tw hw 30 rfl)) Via.refl e102 F4 d6_10 rfl ?_
  intro T103 X103 e103
  refine Go.ddiv (pc' := 14) C X103 d6_13 (V8.nn (V8.ddiv ve v4 h4 hq hwq)) rfl ?_
  refine Go.maxD (W := 0) (pc' := 17) C X103 (tw hw 39 rfl) (tw hw 40 rfl) (tw hw 21 rfl) (tw hw 41 rfl) e103 (V8.nn v2) (V8.nn (V8.ddiv ve v4 h4 hq hwq)) rfl (by decide) (Nat.le_of_eq rfl) (by decide) (by decide) (by decide) d6_14 rfl ?_
  intro T104 X104 e104
  refine Go.dstore (Ls' := #[.val (.ref b), .val (.double ex), .second, .val (.int (1 : Int32)), .val (.double (Jvm.Native.java_lang_Math.nans.pick64 true x2 (FP.ddiv ex x4))), .second]) (pc' := 19) C X104 d6_17 rfl rfl ?_
  refine Go.goto (pc' := 37) C X104 d6_19 (by decide) (by decide) ?_
  refine Go.dload (pc' := 39) C X104 d6_37 rfl rfl ?_
  exact Go.retD C X104 rfl d6_39 (by rw [e104]; exact ⟨(Jvm.Native.java_lang_Math.nans.pick64 true x2 (FP.ddiv ex x4)), rfl, rfl, rfl, (V8.pmax v2 (V8.ddiv ve v4 h4 hq hwq))⟩) (by decide) (by decide)
theorem d6_22 : decode prog_57_method_2_code 22 = .ok (.aload_n 0, 1) := by decide +kernel
theorem d6_23 : decode prog_57_method_2_code 23 = .ok (.getfield 34, 3) := by decide +kernel
theorem d6_26 : decode prog_57_method_2_code 26 = .ok (.dload_n 1, 1) := by decide +kernel
theorem d6_27 : decode prog_57_method_2_code 27 = .ok (.aload_n 0, 1) := by decide +kernel
theorem d6_28 : decode prog_57_method_2_code 28 = .ok (.getfield 40, 3) := by decide +kernel
theorem d6_31 : decode prog_57_method_2_code 31 = .ok (.dmul, 1) := by decide +kernel
theorem d6_32 : decode prog_57_method_2_code 32 = .ok (.invokestatic 49, 3) := by decide +kernel
theorem d6_35 : decode prog_57_method_2_code 35 = .ok (.dstore 4, 2) := by decide +kernel
def Q_wt0 (Z : State) (b : Addr) (ex : UInt64) (ue : Int) (wq : Int) (x3 : UInt64) (u3 : Int) (x5 : UInt64) (u5 : Int) (h0 : Heap) (rv : Option Value) (h : Heap) (L : List Loc) : Prop := ∃ rr : UInt64, rv = some (.double rr) ∧ L = [] ∧ h = h0 ∧ (V8 rr (if u3 < wq then u3 else wq))
theorem rm_wt0 (l : Launch) (Z : State) (a0 : Array Value) (hw : ∀ d ∈ tables_1, d.before a0 Z = true) (b : Addr) (ex : UInt64) (ue : Int) (wq : Int) (x3 : UInt64) (u3 : Int) (x5 : UInt64) (u5 : Int) (h0 : Heap) (O0 : Ext Z.heap h0) (F3 : Fld Z h0 b "com/example/barrault/barrault/service/RevisitPolicy" "maxWait" "D" (.double x3)) (F5 : Fld Z h0 b "com/example/barrault/barrault/service/RevisitPolicy" "unchangedFactor" "D" (.double x5)) (ve : V8 ex ue) (v3 : V8 x3 u3) (v5 : V8 x5 u5) (hq : ue * u5 = 8 * wq) (hwq : wq.natAbs < 9007199254740992) :
    Met1 l Z mN1 prog_57_method_2_code 6 (some .double) ({ frames := 1, cells := 0, slots := 0, locals := 15 } : Room) #[(.ref b), (.double ex), (.int (0 : Int32))] h0 (Q_wt0 Z b ex ue wq x3 u3 x5 u5 h0) := by
  refine Met1.of_body (Ls := #[.val (.ref b), .val (.double ex), .second, .val (.int (0 : Int32)), .unset, .unset]) pf_6 (fun m => by first | (simp [entryFrame, mkF, argsToLocals, Value.category]; done) | rfl) ?_
  intro p e s m below meth c T0 C X0 e0
  have N0 : Fr Z.heap.size [] := Fr.nil _
  refine Go.iloadN (pc' := 1) C X0 d6_0 rfl rfl ?_
  refine Go.ifYes (pc' := 22) C X0 d6_1 ((if0 _ _).trans (teq (x := (0 : Int32)) (y := (0 : Int32)) (by decide)).1) (by decide) (by decide) ?_
  refine Go.aloadN (pc' := 23) C X0 d6_22 rfl rfl rfl ?_
  refine Go.getF (pc' := 26) (host := "") C X0 (Or.inl (tw hw 28 rfl)) Via.refl e0 F3 d6_23 rfl ?_
  intro T102 X102 e102
  refine Go.dloadN (pc' := 27) C X102 d6_26 rfl rfl ?_
  refine Go.aloadN (pc' := 28) C X102 d6_27 rfl rfl rfl ?_
  refine Go.getF (pc' := 31) (host := "") C X102 (Or.inl (tw hw 32 rfl)) Via.refl e102 F5 d6_28 rfl ?_
  intro T103 X103 e103
  refine Go.dmul (pc' := 32) C X103 d6_31 (V8.nn (V8.dmul ve v5 hq hwq)) rfl ?_
  refine Go.minD (W := 0) (pc' := 35) C X103 (tw hw 42 rfl) (tw hw 43 rfl) (tw hw 21 rfl) (tw hw 44 rfl) e103 (V8.nn v3) (V8.nn (V8.dmul ve v5 hq hwq)) rfl (by decide) (Nat.le_of_eq rfl) (by decide) (by decide) (by decide) d6_32 rfl ?_
  intro T104 X104 e104
  refine Go.dstore (Ls' := #[.val (.ref b), .val (.double ex), .second, .val (.int (0 : Int32)), .val (.double (Jvm.Native.java_lang_Math.nans.pick64 false x3 (FP.dmul ex x5))), .second]) (pc' := 37) C X104 d6_35 rfl rfl ?_
  refine Go.dload (pc' := 39) C X104 d6_37 rfl rfl ?_
  exact Go.retD C X104 rfl d6_39 (by rw [e104]; exact ⟨(Jvm.Native.java_lang_Math.nans.pick64 false x3 (FP.dmul ex x5)), rfl, rfl, rfl, (V8.pmin v3 (V8.dmul ve v5 hq hwq))⟩) (by decide) (by decide)
theorem pd_2 : parseMethodDescriptor "(DDDDD)V" = some ⟨[.double, .double, .double, .double, .double], none⟩ := by decide +kernel
theorem pd_3 : parseMethodDescriptor "(DZ)D" = some ⟨[.double, .boolean], some .double⟩ := by decide +kernel
theorem pf_0 : plainFor x = true := plainFor_of_name (by first | (simp [plainName, overriddenIn, x]; done) | decide +kernel)
def Q_law (Z : State) (p1 : Int32) (p2 : Int32) (p3 : Int32) (p4 : Int32) (p5 : Int32) (p6 : Int32) (h0 : Heap) (rv : Option Value) (h : Heap) (L : List Loc) : Prop := rv = some (.int (1 : Int32)) ∧ Fr Z.heap.size L ∧ Keep h0 h []
theorem rm_law (l : Launch) (Z : State) (a0 : Array Value) (hw : ∀ d ∈ tables_1, d.before a0 Z = true) (p1 : Int32) (p2 : Int32) (p3 : Int32) (p4 : Int32) (p5 : Int32) (p6 : Int32) (h0 : Heap) (O0 : Ext Z.heap h0) :
    Met1 l Z x code maxLocals ret room_1 #[(.int p1), (.int p2), (.int p3), (.int p4), (.int p5), (.int p6)] h0 (Q_law Z p1 p2 p3 p4 p5 p6 h0) := by
  refine Met1.of_body (Ls := #[.val (.int p1), .val (.int p2), .val (.int p3), .val (.int p4), .val (.int p5), .val (.int p6), .unset, .unset, .unset, .unset, .unset, .unset, .unset, .unset, .unset, .unset, .unset, .unset, .unset, .unset, .unset, .unset, .unset, .unset, .unset, .unset]) pf_0 (fun m => by first | (simp [entryFrame, mkF, argsToLocals, Value.category, maxLocals]; done) | rfl) ?_
  intro p e s m below meth c T0 C X0 e0
  have N0 : Fr Z.heap.size [] := Fr.nil _
  refine Go.lconst (z := (1 : Int64)) (pc' := 1) C X0 at_0 rfl rfl ?_
  refine Go.iloadN (pc' := 2) C X0 at_1 rfl rfl ?_
  refine Go.ldcI (pc' := 4) C X0 at_2 (tw hw 0 rfl) rfl ?_
  refine Go.iand (pc' := 5) C X0 at_4 rfl ?_
  refine Go.i2l (pc' := 6) C X0 at_5 rfl ?_
  refine Go.ladd (pc' := 7) C X0 at_6 rfl ?_
  obtain ⟨mL, hmL⟩ : ∃ z, z = ((1 : Int64) + ((p1 &&& (1048575 : Int32)).toInt64)) := ⟨_, rfl⟩
  rw [← hmL]
  have fmL : 1 ≤ mL.toInt ∧ mL.toInt ≤ 1048576 := by rw [hmL]; exact own_m _
  refine Go.lstore (Ls' := #[.val (.int p1), .val (.int p2), .val (.int p3), .val (.int p4), .val (.int p5), .val (.int p6), .val (.long mL), .second, .unset, .unset, .unset, .unset, .unset, .unset, .unset, .unset, .unset, .unset, .unset, .unset, .unset, .unset, .unset, .unset, .unset, .unset]) (pc' := 9) C X0 at_7 rfl rfl ?_
  refine Go.lload (pc' := 11) C X0 at_9 rfl rfl ?_
  refine Go.iloadN (pc' := 12) C X0 at_11 rfl rfl ?_
  refine Go.ldcI (pc' := 14) C X0 at_12 (tw hw 0 rfl) rfl ?_
  refine Go.iand (pc' := 15) C X0 at_14 rfl ?_
  refine Go.i2l (pc' := 16) C X0 at_15 rfl ?_
  refine Go.ladd (pc' := 17) C X0 at_16 rfl ?_
  obtain ⟨iL, hiL⟩ : ∃ z, z = (mL + ((p2 &&& (1048575 : Int32)).toInt64)) := ⟨_, rfl⟩
  rw [← hiL]
  have fiL : mL.toInt ≤ iL.toInt ∧ iL.toInt ≤ mL.toInt + 1048575 := by rw [hiL]; exact own_ad _ (by omega)
  refine Go.lstore (Ls' := #[.val (.int p1), .val (.int p2), .val (.int p3), .val (.int p4), .val (.int p5), .val (.int p6), .val (.long mL), .second, .val (.long iL), .second, .unset, .unset, .unset, .unset, .unset, .unset, .unset, .unset, .unset, .unset, .unset, .unset, .unset, .unset, .unset, .unset]) (pc' := 19) C X0 at_17 rfl rfl ?_
  refine Go.lload (pc' := 21) C X0 at_19 rfl rfl ?_
  refine Go.iloadN (pc' := 22) C X0 at_21 rfl rfl ?_
  refine Go.ldcI (pc' := 24) C X0 at_22 (tw hw 0 rfl) rfl ?_
  refine Go.iand (pc' := 25) C X0 at_24 rfl ?_
  refine Go.i2l (pc' := 26) C X0 at_25 rfl ?_
  refine Go.ladd (pc' := 27) C X0 at_26 rfl ?_
  obtain ⟨xL, hxL⟩ : ∃ z, z = (iL + ((p3 &&& (1048575 : Int32)).toInt64)) := ⟨_, rfl⟩
  rw [← hxL]
  have fxL : iL.toInt ≤ xL.toInt ∧ xL.toInt ≤ iL.toInt + 1048575 := by rw [hxL]; exact own_ad _ (by omega)
  refine Go.lstore (Ls' := #[.val (.int p1), .val (.int p2), .val (.int p3), .val (.int p4), .val (.int p5), .val (.int p6), .val (.long mL), .second, .val (.long iL), .second, .val (.long xL), .second, .unset, .unset, .unset, .unset, .unset, .unset, .unset, .unset, .unset, .unset, .unset, .unset, .unset, .unset]) (pc' := 29) C X0 at_27 rfl rfl ?_
  refine Go.lconst (z := (1 : Int64)) (pc' := 30) C X0 at_29 rfl rfl ?_
  refine Go.iloadN (pc' := 31) C X0 at_30 rfl rfl ?_
  refine Go.iconst (z := (3 : Int32)) (pc' := 32) C X0 at_31 rfl rfl ?_
  refine Go.iand (pc' := 33) C X0 at_32 rfl ?_
  refine Go.lshl (pc' := 34) C X0 at_33 rfl ?_
  obtain ⟨cL, hcL⟩ : ∃ z, z = ((1 : Int64) <<< ((p4 &&& (3 : Int32)) &&& 0x3f).toInt64) := ⟨_, rfl⟩
  rw [← hcL]
  have fcL : cL.toInt = 1 ∨ cL.toInt = 2 ∨ cL.toInt = 4 ∨ cL.toInt = 8 := by rw [hcL]; exact own_cf _
  refine Go.lstore (Ls' := #[.val (.int p1), .val (.int p2), .val (.int p3), .val (.int p4), .val (.int p5), .val (.int p6), .val (.long mL), .second, .val (.long iL), .second, .val (.long xL), .second, .val (.long cL), .second, .unset, .unset, .unset, .unset, .unset, .unset, .unset, .unset, .unset, .unset, .unset, .unset]) (pc' := 36) C X0 at_34 rfl rfl ?_
  refine Go.lconst (z := (1 : Int64)) (pc' := 37) C X0 at_36 rfl rfl ?_
  refine Go.iloadN (pc' := 38) C X0 at_37 rfl rfl ?_
  refine Go.iconst (z := (2 : Int32)) (pc' := 39) C X0 at_38 rfl rfl ?_
  refine Go.ishr (pc' := 40) C X0 at_39 rfl ?_
  refine Go.bipush (z := (7 : Int32)) (pc' := 42) C X0 at_40 rfl rfl ?_
  refine Go.iand (pc' := 43) C X0 at_42 rfl ?_
  refine Go.i2l (pc' := 44) C X0 at_43 rfl ?_
  refine Go.ladd (pc' := 45) C X0 at_44 rfl ?_
  obtain ⟨uL, huL⟩ : ∃ z, z = ((1 : Int64) + (((p4 >>> ((2 : Int32) &&& 31)) &&& (7 : Int32)).toInt64)) := ⟨_, rfl⟩
  rw [← huL]
  have fuL : 1 ≤ uL.toInt ∧ uL.toInt ≤ 8 := by rw [huL]; exact own_uf _
  obtain ⟨wL, hwL⟩ : ∃ z, z = p5.toInt64 := ⟨_, rfl⟩
  have fwL : -2147483648 ≤ wL.toInt ∧ wL.toInt < 2147483648 := by rw [hwL, c_i2l]; exact rng32 p5
  obtain ⟨wk, hwk, rwk, lwk, gwk⟩ := own_chg fmL fcL fwL
  have fun_ := own_unc fwL fuL
  obtain ⟨qL, hqL⟩ : ∃ z, z = wL * uL := ⟨_, rfl⟩
  rw [← hqL] at fun_
  obtain ⟨pL, hpL⟩ : ∃ z, z = mL * cL := ⟨_, rfl⟩
  rw [← hpL] at lwk gwk
  refine Go.lstore (Ls' := #[.val (.int p1), .val (.int p2), .val (.int p3), .val (.int p4), .val (.int p5), .val (.int p6), .val (.long mL), .second, .val (.long iL), .second, .val (.long xL), .second, .val (.long cL), .second, .val (.long uL), .second, .unset, .unset, .unset, .unset, .unset, .unset, .unset, .unset, .unset, .unset]) (pc' := 47) C X0 at_45 rfl rfl ?_
  refine Go.iload (pc' := 49) C X0 at_47 rfl rfl ?_
  refine Go.iconst (z := (1 : Int32)) (pc' := 50) C X0 at_49 rfl rfl ?_
  refine Go.iand (pc' := 51) C X0 at_50 rfl ?_
  by_cases hc51_101 : (p6 &&& (1 : Int32)) = (0 : Int32)
  · refine Go.ifYes (pc' := 58) C X0 at_51 ((if0 _ _).trans (teq (x := (p6 &&& (1 : Int32))) (y := (0 : Int32)) hc51_101).1) (by decide) (by decide) ?_
    refine Go.iconst (z := (0 : Int32)) (pc' := 59) C X0 at_58 rfl rfl ?_
    refine Go.istore (Ls' := #[.val (.int p1), .val (.int p2), .val (.int p3), .val (.int p4), .val (.int p5), .val (.int p6), .val (.long mL), .second, .val (.long iL), .second, .val (.long xL), .second, .val (.long cL), .second, .val (.long uL), .second, .val (.int (0 : Int32)), .unset, .unset, .unset, .unset, .unset, .unset, .unset, .unset, .unset]) (pc' := 61) C X0 at_59 rfl rfl ?_
    refine Go.newO (pc' := 64) C X0 (tw hw 1 rfl) (tw hw 2 rfl) (tw hw 3 rfl) e0 (by decide) (by decide) at_61 rfl ?_
    intro T102 h102 b102 X102 e102 g102 E102 A102 D102
    have n_b102 : Z.heap.size ≤ b102 := Nat.le_trans O0.1 (Nat.le_of_eq g102.symm)
    have z_b102 : h0.size ≤ b102 := Nat.le_trans (Nat.le_refl _) (Nat.le_of_eq g102.symm)
    have F102_initialWait : Fld Z h102 b102 "com/example/barrault/barrault/service/RevisitPolicy" "initialWait" "D" (.double (0 : UInt64)) := D102 (Or.inr (tw hw 25 rfl)) (ty := .double) (by decide)
    have F102_minWait : Fld Z h102 b102 "com/example/barrault/barrault/service/RevisitPolicy" "minWait" "D" (.double (0 : UInt64)) := D102 (Or.inr (tw hw 27 rfl)) (ty := .double) (by decide)
    have F102_maxWait : Fld Z h102 b102 "com/example/barrault/barrault/service/RevisitPolicy" "maxWait" "D" (.double (0 : UInt64)) := D102 (Or.inr (tw hw 29 rfl)) (ty := .double) (by decide)
    have F102_changedFactor : Fld Z h102 b102 "com/example/barrault/barrault/service/RevisitPolicy" "changedFactor" "D" (.double (0 : UInt64)) := D102 (Or.inr (tw hw 31 rfl)) (ty := .double) (by decide)
    have F102_unchangedFactor : Fld Z h102 b102 "com/example/barrault/barrault/service/RevisitPolicy" "unchangedFactor" "D" (.double (0 : UInt64)) := D102 (Or.inr (tw hw 33 rfl)) (ty := .double) (by decide)
    refine Go.dup (pc' := 65) C X102 at_64 rfl rfl ?_
    refine Go.lload (pc' := 67) C X102 at_65 rfl rfl ?_
    refine Go.l2d (pc' := 68) C X102 at_67 rfl ?_
    refine Go.lload (pc' := 70) C X102 at_68 rfl rfl ?_
    refine Go.l2d (pc' := 71) C X102 at_70 rfl ?_
    refine Go.lload (pc' := 73) C X102 at_71 rfl rfl ?_
    refine Go.l2d (pc' := 74) C X102 at_73 rfl ?_
    refine Go.lload (pc' := 76) C X102 at_74 rfl rfl ?_
    refine Go.l2d (pc' := 77) C X102 at_76 rfl ?_
    refine Go.lload (pc' := 79) C X102 at_77 rfl rfl ?_
    refine Go.l2d (pc' := 80) C X102 at_79 rfl ?_
    have O104 : Ext Z.heap h102 := (Ext.trans O0 E102)
    refine Go.callI (y := mN0) (a := b102) (pc' := 83) C X102 rfl (tw hw 4 rfl) (tw hw 5 rfl) (by decide) (rm_ini l Z a0 hw b102 ((FP.l2d iL)) ((FP.l2d mL)) ((FP.l2d xL)) ((FP.l2d cL)) ((FP.l2d uL)) ((8 * iL.toInt)) ((8 * mL.toInt)) ((8 * xL.toInt)) ((8 * cL.toInt)) ((8 * uL.toInt)) h102 O104 A102 F102_initialWait F102_minWait F102_maxWait F102_changedFactor F102_unchangedFactor n_b102 (V8.w (by omega)) (V8.w (by omega)) (V8.w (by omega)) (V8.w (by omega)) (V8.w (by omega)) (by omega) (by omega) (by omega) (by omega) (by omega)) (tw hw 6 rfl) (tw hw 3 rfl) e102 (argsL := [(.double (FP.l2d iL)), (.double (FP.l2d mL)), (.double (FP.l2d xL)), (.double (FP.l2d cL)), (.double (FP.l2d uL))]) (rest := [(.ref b102)]) (W := 1) rfl rfl pd_2 rfl (Nat.le_of_eq rfl) rfl (by decide) (by decide) (by decide) (by decide) rfl at_80 rfl ?_
    intro T103 v103 L103 X103 q103
    obtain ⟨rfl, N103q, K103, P103_0, P103_1, P103_2, P103_3, P103_4⟩ := q103
    have N103 := Fr.app N0 N103q
    refine Go.astore (Ls' := #[.val (.int p1), .val (.int p2), .val (.int p3), .val (.int p4), .val (.int p5), .val (.int p6), .val (.long mL), .second, .val (.long iL), .second, .val (.long xL), .second, .val (.long cL), .second, .val (.long uL), .second, .val (.int (0 : Int32)), .val (.ref b102), .unset, .unset, .unset, .unset, .unset, .unset, .unset, .unset]) (pc' := 85) C X103 at_83 rfl rfl rfl ?_
    refine Go.aload (pc' := 87) C X103 at_85 rfl rfl rfl ?_
    refine Go.iload (pc' := 89) C X103 at_87 rfl rfl ?_
    refine Go.i2d (v := (FP.l2d wL)) (pc' := 90) C X103 at_89 (by rw [hwL]; exact i2d_w p5) rfl ?_
    refine Go.iload (pc' := 92) C X103 at_90 rfl rfl ?_
    have O106 : Ext Z.heap T103.heap := (Ext.keep O104 K103 (allS n_b102 all0))
    have c107 : Exa Z T103.heap b102 "com/example/barrault/barrault/service/RevisitPolicy" := (Exa.keep A102 K103)
    refine Go.callV (y := mN1) (z := mN1) (a := b102) (pc' := 95) C X103 (tw hw 34 rfl) (tw hw 35 rfl) (notFace_at C.2.1 (tw hw 37 rfl)) (tw hw 37 rfl) (tw hw 36 rfl) c107 (by decide) (rm_wt0 l Z a0 hw b102 ((FP.l2d wL)) ((8 * wL.toInt)) ((8 * qL.toInt)) ((FP.l2d xL)) ((8 * xL.toInt)) ((FP.l2d uL)) ((8 * uL.toInt)) T103.heap O106 P103_2 P103_4 (V8.w (by omega)) (V8.w (by omega)) (V8.w (by omega)) fun_.1 (by omega)) (tw hw 38 rfl) (tw hw 3 rfl) rfl (argsL := [(.double (FP.l2d wL)), (.int (0 : Int32))]) (rest := []) (W := 0) rfl rfl pd_3 rfl (Nat.le_of_eq rfl) rfl (by decide) (by decide) (by decide) (by decide) at_92 rfl ?_
    intro T105 v105 L105 X105 q105
    obtain ⟨rr_105, rfl, rfl, e105, p105_0⟩ := q105
    have N105 := Fr.app N103 (Fr.nil _)
    obtain ⟨RR, hRR⟩ : ∃ z, z = (if (8 * xL.toInt) < (8 * qL.toInt) then (8 * xL.toInt) else (8 * qL.toInt)) := ⟨_, rfl⟩
    have vr : V8 rr_105 RR := by rw [hRR]; exact p105_0
    refine Go.dstore (Ls' := #[.val (.int p1), .val (.int p2), .val (.int p3), .val (.int p4), .val (.int p5), .val (.int p6), .val (.long mL), .second, .val (.long iL), .second, .val (.long xL), .second, .val (.long cL), .second, .val (.long uL), .second, .val (.int (0 : Int32)), .val (.ref b102), .val (.double rr_105), .second, .unset, .unset, .unset, .unset, .unset, .unset]) (pc' := 97) C X105 at_95 rfl rfl ?_
    refine Go.iload (pc' := 99) C X105 at_97 rfl rfl ?_
    refine Go.i2l (pc' := 100) C X105 at_99 rfl ?_
    rw [← hwL]
    refine Go.lstore (Ls' := #[.val (.int p1), .val (.int p2), .val (.int p3), .val (.int p4), .val (.int p5), .val (.int p6), .val (.long mL), .second, .val (.long iL), .second, .val (.long xL), .second, .val (.long cL), .second, .val (.long uL), .second, .val (.int (0 : Int32)), .val (.ref b102), .val (.double rr_105), .second, .val (.long wL), .second, .unset, .unset, .unset, .unset]) (pc' := 102) C X105 at_100 rfl rfl ?_
    refine Go.iload (pc' := 104) C X105 at_102 rfl rfl ?_
    refine Go.ifYes (pc' := 161) C X105 at_104 ((if0 _ _).trans (teq (x := (0 : Int32)) (y := (0 : Int32)) (by decide)).1) (by decide) (by decide) ?_
    refine Go.lload (pc' := 163) C X105 at_161 rfl rfl ?_
    refine Go.lload (pc' := 165) C X105 at_163 rfl rfl ?_
    refine Go.lmul (pc' := 166) C X105 at_165 rfl ?_
    rw [← hqL]
    refine Go.lstore (Ls' := #[.val (.int p1), .val (.int p2), .val (.int p3), .val (.int p4), .val (.int p5), .val (.int p6), .val (.long mL), .second, .val (.long iL), .second, .val (.long xL), .second, .val (.long cL), .second, .val (.long uL), .second, .val (.int (0 : Int32)), .val (.ref b102), .val (.double rr_105), .second, .val (.long wL), .second, .val (.long qL), .second, .unset, .unset]) (pc' := 168) C X105 at_166 rfl rfl ?_
    refine Go.lload (pc' := 170) C X105 at_168 rfl rfl ?_
    refine Go.lload (pc' := 172) C X105 at_170 rfl rfl ?_
    refine Go.lcmp (pc' := 173) C X105 at_172 rfl ?_
    by_cases hc173_109 : (0 : Int32) < (lcmpW qL xL)
    · refine Go.ifNo (pc' := 176) C X105 at_173 ((if0 _ _).trans (tlt (x := (0 : Int32)) (y := (lcmpW qL xL)) hc173_109).2.2.2) rfl ?_
      refine Go.lload (pc' := 178) C X105 at_176 rfl rfl ?_
      refine Go.goto (pc' := 183) C X105 at_178 (by decide) (by decide) ?_
      refine Go.lstore (Ls' := #[.val (.int p1), .val (.int p2), .val (.int p3), .val (.int p4), .val (.int p5), .val (.int p6), .val (.long mL), .second, .val (.long iL), .second, .val (.long xL), .second, .val (.long cL), .second, .val (.long uL), .second, .val (.int (0 : Int32)), .val (.ref b102), .val (.double rr_105), .second, .val (.long wL), .second, .val (.long qL), .second, .val (.long xL), .second]) (pc' := 185) C X105 at_183 rfl rfl ?_
      have gk := lw_gt hc173_109
      have eR : RR = 8 * xL.toInt := by rw [hRR]; rw [if_pos (by omega)]
      refine Go.dload (pc' := 187) C X105 at_185 rfl rfl ?_
      refine Go.lload (pc' := 189) C X105 at_187 rfl rfl ?_
      refine Go.l2d (pc' := 190) C X105 at_189 rfl ?_
      refine Go.dcmp (v := (0 : Int32)) (pc' := 191) C X105 at_190 (cv_eq vr (V8.w (by omega)) (by omega) _) rfl ?_
      refine Go.ifNo (pc' := 194) C X105 at_191 ((if0 _ _).trans (teq (x := (0 : Int32)) (y := (0 : Int32)) (by decide)).2) rfl ?_
      refine Go.iconst (z := (1 : Int32)) (pc' := 195) C X105 at_194 rfl rfl ?_
      refine Go.goto (pc' := 199) C X105 at_195 (by decide) (by decide) ?_
      have K111 : Keep h0 T103.heap [] := (((Keep.refl h0 []).ext E102).trans K103 (allS (Or.inr z_b102) all0))
      exact Go.retN C X105 rfl at_199 (by simp) (by rw [e105]; exact ⟨rfl, N105, K111⟩) (by decide) (by decide)
    · refine Go.ifYes (pc' := 181) C X105 at_173 ((if0 _ _).trans (flt (x := (0 : Int32)) (y := (lcmpW qL xL)) hc173_109).2.2.2) (by decide) (by decide) ?_
      refine Go.lload (pc' := 183) C X105 at_181 rfl rfl ?_
      refine Go.lstore (Ls' := #[.val (.int p1), .val (.int p2), .val (.int p3), .val (.int p4), .val (.int p5), .val (.int p6), .val (.long mL), .second, .val (.long iL), .second, .val (.long xL), .second, .val (.long cL), .second, .val (.long uL), .second, .val (.int (0 : Int32)), .val (.ref b102), .val (.double rr_105), .second, .val (.long wL), .second, .val (.long qL), .second, .val (.long qL), .second]) (pc' := 185) C X105 at_183 rfl rfl ?_
      have gk := lw_ngt hc173_109
      have eR : RR = 8 * qL.toInt := by rw [hRR]; split <;> omega
      refine Go.dload (pc' := 187) C X105 at_185 rfl rfl ?_
      refine Go.lload (pc' := 189) C X105 at_187 rfl rfl ?_
      refine Go.l2d (pc' := 190) C X105 at_189 rfl ?_
      refine Go.dcmp (v := (0 : Int32)) (pc' := 191) C X105 at_190 (cv_eq vr (V8.w (by omega)) (by omega) _) rfl ?_
      refine Go.ifNo (pc' := 194) C X105 at_191 ((if0 _ _).trans (teq (x := (0 : Int32)) (y := (0 : Int32)) (by decide)).2) rfl ?_
      refine Go.iconst (z := (1 : Int32)) (pc' := 195) C X105 at_194 rfl rfl ?_
      refine Go.goto (pc' := 199) C X105 at_195 (by decide) (by decide) ?_
      have K113 : Keep h0 T103.heap [] := (((Keep.refl h0 []).ext E102).trans K103 (allS (Or.inr z_b102) all0))
      exact Go.retN C X105 rfl at_199 (by simp) (by rw [e105]; exact ⟨rfl, N105, K113⟩) (by decide) (by decide)
  · refine Go.ifNo (pc' := 54) C X0 at_51 ((if0 _ _).trans (feq (x := (p6 &&& (1 : Int32))) (y := (0 : Int32)) hc51_101).1) rfl ?_
    refine Go.iconst (z := (1 : Int32)) (pc' := 55) C X0 at_54 rfl rfl ?_
    refine Go.goto (pc' := 59) C X0 at_55 (by decide) (by decide) ?_
    refine Go.istore (Ls' := #[.val (.int p1), .val (.int p2), .val (.int p3), .val (.int p4), .val (.int p5), .val (.int p6), .val (.long mL), .second, .val (.long iL), .second, .val (.long xL), .second, .val (.long cL), .second, .val (.long uL), .second, .val (.int (1 : Int32)), .unset, .unset, .unset, .unset, .unset, .unset, .unset, .unset, .unset]) (pc' := 61) C X0 at_59 rfl rfl ?_
    refine Go.newO (pc' := 64) C X0 (tw hw 1 rfl) (tw hw 2 rfl) (tw hw 3 rfl) e0 (by decide) (by decide) at_61 rfl ?_
    intro T114 h114 b114 X114 e114 g114 E114 A114 D114
    have n_b114 : Z.heap.size ≤ b114 := Nat.le_trans O0.1 (Nat.le_of_eq g114.symm)
    have z_b114 : h0.size ≤ b114 := Nat.le_trans (Nat.le_refl _) (Nat.le_of_eq g114.symm)
    have F114_initialWait : Fld Z h114 b114 "com/example/barrault/barrault/service/RevisitPolicy" "initialWait" "D" (.double (0 : UInt64)) := D114 (Or.inr (tw hw 25 rfl)) (ty := .double) (by decide)
    have F114_minWait : Fld Z h114 b114 "com/example/barrault/barrault/service/RevisitPolicy" "minWait" "D" (.double (0 : UInt64)) := D114 (Or.inr (tw hw 27 rfl)) (ty := .double) (by decide)
    have F114_maxWait : Fld Z h114 b114 "com/example/barrault/barrault/service/RevisitPolicy" "maxWait" "D" (.double (0 : UInt64)) := D114 (Or.inr (tw hw 29 rfl)) (ty := .double) (by decide)
    have F114_changedFactor : Fld Z h114 b114 "com/example/barrault/barrault/service/RevisitPolicy" "changedFactor" "D" (.double (0 : UInt64)) := D114 (Or.inr (tw hw 31 rfl)) (ty := .double) (by decide)
    have F114_unchangedFactor : Fld Z h114 b114 "com/example/barrault/barrault/service/RevisitPolicy" "unchangedFactor" "D" (.double (0 : UInt64)) := D114 (Or.inr (tw hw 33 rfl)) (ty := .double) (by decide)
    refine Go.dup (pc' := 65) C X114 at_64 rfl rfl ?_
    refine Go.lload (pc' := 67) C X114 at_65 rfl rfl ?_
    refine Go.l2d (pc' := 68) C X114 at_67 rfl ?_
    refine Go.lload (pc' := 70) C X114 at_68 rfl rfl ?_
    refine Go.l2d (pc' := 71) C X114 at_70 rfl ?_
    refine Go.lload (pc' := 73) C X114 at_71 rfl rfl ?_
    refine Go.l2d (pc' := 74) C X114 at_73 rfl ?_
    refine Go.lload (pc' := 76) C X114 at_74 rfl rfl ?_
    refine Go.l2d (pc' := 77) C X114 at_76 rfl ?_
    refine Go.lload (pc' := 79) C X114 at_77 rfl rfl ?_
    refine Go.l2d (pc' := 80) C X114 at_79 rfl ?_
    have O116 : Ext Z.heap h114 := (Ext.trans O0 E114)
    refine Go.callI (y := mN0) (a := b114) (pc' := 83) C X114 rfl (tw hw 4 rfl) (tw hw 5 rfl) (by decide) (rm_ini l Z a0 hw b114 ((FP.l2d iL)) ((FP.l2d mL)) ((FP.l2d xL)) ((FP.l2d cL)) ((FP.l2d uL)) ((8 * iL.toInt)) ((8 * mL.toInt)) ((8 * xL.toInt)) ((8 * cL.toInt)) ((8 * uL.toInt)) h114 O116 A114 F114_initialWait F114_minWait F114_maxWait F114_changedFactor F114_unchangedFactor n_b114 (V8.w (by omega)) (V8.w (by omega)) (V8.w (by omega)) (V8.w (by omega)) (V8.w (by omega)) (by omega) (by omega) (by omega) (by omega) (by omega)) (tw hw 6 rfl) (tw hw 3 rfl) e114 (argsL := [(.double (FP.l2d iL)), (.double (FP.l2d mL)), (.double (FP.l2d xL)), (.double (FP.l2d cL)), (.double (FP.l2d uL))]) (rest := [(.ref b114)]) (W := 1) rfl rfl pd_2 rfl (Nat.le_of_eq rfl) rfl (by decide) (by decide) (by decide) (by decide) rfl at_80 rfl ?_
    intro T115 v115 L115 X115 q115
    obtain ⟨rfl, N115q, K115, P115_0, P115_1, P115_2, P115_3, P115_4⟩ := q115
    have N115 := Fr.app N0 N115q
    refine Go.astore (Ls' := #[.val (.int p1), .val (.int p2), .val (.int p3), .val (.int p4), .val (.int p5), .val (.int p6), .val (.long mL), .second, .val (.long iL), .second, .val (.long xL), .second, .val (.long cL), .second, .val (.long uL), .second, .val (.int (1 : Int32)), .val (.ref b114), .unset, .unset, .unset, .unset, .unset, .unset, .unset, .unset]) (pc' := 85) C X115 at_83 rfl rfl rfl ?_
    refine Go.aload (pc' := 87) C X115 at_85 rfl rfl rfl ?_
    refine Go.iload (pc' := 89) C X115 at_87 rfl rfl ?_
    refine Go.i2d (v := (FP.l2d wL)) (pc' := 90) C X115 at_89 (by rw [hwL]; exact i2d_w p5) rfl ?_
    refine Go.iload (pc' := 92) C X115 at_90 rfl rfl ?_
    have O118 : Ext Z.heap T115.heap := (Ext.keep O116 K115 (allS n_b114 all0))
    have c119 : Exa Z T115.heap b114 "com/example/barrault/barrault/service/RevisitPolicy" := (Exa.keep A114 K115)
    refine Go.callV (y := mN1) (z := mN1) (a := b114) (pc' := 95) C X115 (tw hw 34 rfl) (tw hw 35 rfl) (notFace_at C.2.1 (tw hw 37 rfl)) (tw hw 37 rfl) (tw hw 36 rfl) c119 (by decide) (rm_wt1 l Z a0 hw b114 ((FP.l2d wL)) ((8 * wL.toInt)) wk ((FP.l2d mL)) ((8 * mL.toInt)) ((FP.l2d cL)) ((8 * cL.toInt)) T115.heap O118 P115_1 P115_3 (V8.w (by omega)) (V8.w (by omega)) (V8.w (by omega)) (by omega) hwk (by omega)) (tw hw 38 rfl) (tw hw 3 rfl) rfl (argsL := [(.double (FP.l2d wL)), (.int (1 : Int32))]) (rest := []) (W := 0) rfl rfl pd_3 rfl (Nat.le_of_eq rfl) rfl (by decide) (by decide) (by decide) (by decide) at_92 rfl ?_
    intro T117 v117 L117 X117 q117
    obtain ⟨rr_117, rfl, rfl, e117, p117_0⟩ := q117
    have N117 := Fr.app N115 (Fr.nil _)
    obtain ⟨RR, hRR⟩ : ∃ z, z = (if (8 * mL.toInt) < wk then wk else (8 * mL.toInt)) := ⟨_, rfl⟩
    have vr : V8 rr_117 RR := by rw [hRR]; exact p117_0
    refine Go.dstore (Ls' := #[.val (.int p1), .val (.int p2), .val (.int p3), .val (.int p4), .val (.int p5), .val (.int p6), .val (.long mL), .second, .val (.long iL), .second, .val (.long xL), .second, .val (.long cL), .second, .val (.long uL), .second, .val (.int (1 : Int32)), .val (.ref b114), .val (.double rr_117), .second, .unset, .unset, .unset, .unset, .unset, .unset]) (pc' := 97) C X117 at_95 rfl rfl ?_
    refine Go.iload (pc' := 99) C X117 at_97 rfl rfl ?_
    refine Go.i2l (pc' := 100) C X117 at_99 rfl ?_
    rw [← hwL]
    refine Go.lstore (Ls' := #[.val (.int p1), .val (.int p2), .val (.int p3), .val (.int p4), .val (.int p5), .val (.int p6), .val (.long mL), .second, .val (.long iL), .second, .val (.long xL), .second, .val (.long cL), .second, .val (.long uL), .second, .val (.int (1 : Int32)), .val (.ref b114), .val (.double rr_117), .second, .val (.long wL), .second, .unset, .unset, .unset, .unset]) (pc' := 102) C X117 at_100 rfl rfl ?_
    refine Go.iload (pc' := 104) C X117 at_102 rfl rfl ?_
    refine Go.ifNo (pc' := 107) C X117 at_104 ((if0 _ _).trans (feq (x := (1 : Int32)) (y := (0 : Int32)) (by decide)).1) rfl ?_
    refine Go.lload (pc' := 109) C X117 at_107 rfl rfl ?_
    refine Go.lload (pc' := 111) C X117 at_109 rfl rfl ?_
    refine Go.lload (pc' := 113) C X117 at_111 rfl rfl ?_
    refine Go.lmul (pc' := 114) C X117 at_113 rfl ?_
    rw [← hpL]
    refine Go.lcmp (pc' := 115) C X117 at_114 rfl ?_
    by_cases hc115_121 : (lcmpW wL pL) < (0 : Int32)
    · refine Go.ifNo (pc' := 118) C X117 at_115 ((if0 _ _).trans (tlt (x := (lcmpW wL pL)) (y := (0 : Int32)) hc115_121).2.1) rfl ?_
      have eR : RR = 8 * mL.toInt := by rw [hRR]; have := lwk (lw_lt hc115_121); rw [if_neg (by omega)]
      refine Go.dload (pc' := 120) C X117 at_118 rfl rfl ?_
      refine Go.lload (pc' := 122) C X117 at_120 rfl rfl ?_
      refine Go.l2d (pc' := 123) C X117 at_122 rfl ?_
      refine Go.dcmp (v := (0 : Int32)) (pc' := 124) C X117 at_123 (cv_eq vr (V8.w (by omega)) (by omega) _) rfl ?_
      refine Go.ifNo (pc' := 127) C X117 at_124 ((if0 _ _).trans (teq (x := (0 : Int32)) (y := (0 : Int32)) (by decide)).2) rfl ?_
      refine Go.iconst (z := (1 : Int32)) (pc' := 128) C X117 at_127 rfl rfl ?_
      refine Go.goto (pc' := 132) C X117 at_128 (by decide) (by decide) ?_
      have K123 : Keep h0 T115.heap [] := (((Keep.refl h0 []).ext E114).trans K115 (allS (Or.inr z_b114) all0))
      exact Go.retN C X117 rfl at_132 (by simp) (by rw [e117]; exact ⟨rfl, N117, K123⟩) (by decide) (by decide)
    · refine Go.ifYes (pc' := 133) C X117 at_115 ((if0 _ _).trans (flt (x := (lcmpW wL pL)) (y := (0 : Int32)) hc115_121).2.1) (by decide) (by decide) ?_
      have gk := gwk (lw_nlt hc115_121)
      have eR : RR = wk := by rw [hRR]; split <;> omega
      have vm_ := V8.dmul (w := 8 * wL.toInt) vr (V8.w (a := cL) (by omega)) (by rw [eR]; exact hwk.symm) (by omega)
      refine Go.dload (pc' := 135) C X117 at_133 rfl rfl ?_
      refine Go.lload (pc' := 137) C X117 at_135 rfl rfl ?_
      refine Go.l2d (pc' := 138) C X117 at_137 rfl ?_
      refine Go.dmul (pc' := 139) C X117 at_138 (V8.nn vm_) rfl ?_
      refine Go.lload (pc' := 141) C X117 at_139 rfl rfl ?_
      refine Go.l2d (pc' := 142) C X117 at_141 rfl ?_
      refine Go.dcmp (v := (0 : Int32)) (pc' := 143) C X117 at_142 (cv_eq vm_ (V8.w (by omega)) (by omega) _) rfl ?_
      refine Go.ifNo (pc' := 146) C X117 at_143 ((if0 _ _).trans (teq (x := (0 : Int32)) (y := (0 : Int32)) (by decide)).2) rfl ?_
      refine Go.dload (pc' := 148) C X117 at_146 rfl rfl ?_
      refine Go.lload (pc' := 150) C X117 at_148 rfl rfl ?_
      refine Go.l2d (pc' := 151) C X117 at_150 rfl ?_
      refine Go.dcmp (v := (cmpValue (FP.dcmp rr_117 (FP.l2d mL)) .l)) (pc' := 152) C X117 at_151 rfl rfl ?_
      refine Go.ifNo (pc' := 155) C X117 at_152 ((if0 _ _).trans (flt (x := (cmpValue (FP.dcmp rr_117 (FP.l2d mL)) .l)) (y := (0 : Int32)) (cv_nlt vr (V8.w (by omega)) (by omega) _)).1) rfl ?_
      refine Go.iconst (z := (1 : Int32)) (pc' := 156) C X117 at_155 rfl rfl ?_
      refine Go.goto (pc' := 160) C X117 at_156 (by decide) (by decide) ?_
      have K126 : Keep h0 T115.heap [] := (((Keep.refl h0 []).ext E114).trans K115 (allS (Or.inr z_b114) all0))
      exact Go.retN C X117 rfl at_160 (by simp) (by rw [e117]; exact ⟨rfl, N117, K126⟩) (by decide) (by decide)
theorem comes_1 {Post : Tables → Env → Array Value → State → Outcome → State → Prop} (hpost : ∀ tb e args s v u, (limb_1_1.after args s (.returned v) u = true ∧ limb_1_2.after args s (.returned v) u = true ∧ True) → FrameEnd s (.returned v) u (Jvm.fieldLocs frame_1_writes args s ++ Jvm.arrayLocs frame_1_arrays args s ++ Jvm.staticLocs frame_1_statics s) 16 128 → Post tb e args s (.returned v) u) :
    ArmFor flags0 classFile x code maxLocals ret World_1 tables_1 room_1 Calls_1 rest_1 Pre_1 Post := by
  intro l hfl _ _ p e ha hc hk s m args below hf hA hF happ hP
  obtain ⟨hcalls, hrest, hpre⟩ := hP
  obtain ⟨-, -, -, hnamed, -, -, -, hat⟩ := (Spec.applies_iff hf).mp happ
  obtain ⟨hg, hn⟩ := and_e (Cond.before_iff.mp (show (Jvm.Cond.and given_1 narrow_1).before args s = true from hpre))
  obtain ⟨g1, g2⟩ := and_e hg
  obtain ⟨g3, g4⟩ := and_e g2
  obtain ⟨g5, g6⟩ := and_e g4
  obtain ⟨g7, g8⟩ := and_e g6
  obtain ⟨g9, g10⟩ := and_e g8
  obtain ⟨g11, g12⟩ := and_e g10
  obtain ⟨w0, w1, w2, w3, w4, w5, rfl⟩ : ∃ w0 w1 w2 w3 w4 w5 : Value, args = #[w0, w1, w2, w3, w4, w5] := by
    have hs : args.size = 6 := by simpa [Cond.value, given_1] using g1
    obtain ⟨L⟩ := args
    match L, hs with
    | [w0, w1, w2, w3, w4, w5], _ => exact ⟨w0, w1, w2, w3, w4, w5, rfl⟩
  have hw := fun d (hd : d ∈ tables_1) => atoms_spec (ws := Jvm.Cond.code x code maxLocals ret :: tables_1) hat d (List.mem_cons_of_mem _ hd)
  have hfit : Fit s := fun {y c} hc i hi => by
    obtain ⟨ha, rfl⟩ := Array.getElem?_eq_some_iff.mp hc
    have q := List.all_eq_true.mp ((Array.all_eq_true_iff_forall_mem.mp hF) _ (Array.getElem_mem ha)) i (List.mem_range.mpr hi)
    simpa [Array.getElem?_eq_getElem hi] using q
  obtain ⟨i0, ei0⟩ := is_v g3
  obtain rfl : w0 = (.int i0) := Option.some.inj ei0
  obtain ⟨i1, ei1⟩ := is_v g5
  obtain rfl : w1 = (.int i1) := Option.some.inj ei1
  obtain ⟨i2, ei2⟩ := is_v g7
  obtain rfl : w2 = (.int i2) := Option.some.inj ei2
  obtain ⟨i3, ei3⟩ := is_v g9
  obtain rfl : w3 = (.int i3) := Option.some.inj ei3
  obtain ⟨i4, ei4⟩ := is_v g11
  obtain rfl : w4 = (.int i4) := Option.some.inj ei4
  obtain ⟨i5, ei5⟩ := is_v g12
  obtain rfl : w5 = (.int i5) := Option.some.inj ei5
  obtain ⟨n, o, h1, h2, h3, _, L, rfl, ⟨rfl, N, -⟩, hq⟩ := rm_law l s _ hw i0 i1 i2 i3 i4 i5 s.heap (Ext.refl _)  tables_1 p e ha hc hk s m _ below hf ((Spec.applies_iff_loose hf).mp happ).1 ⟨rfl, State.Warmed39.refl s, rfl⟩ trivial
  refine ⟨n, _, h1, h2, h3, hpost _ _ _ _ _ _ ⟨Cond.after_iff.mpr rfl, Cond.after_iff.mpr (eq_i res_at (Term.int_eval (1)) rfl), trivial⟩ ⟨hq.1, hq.2.1, (hq.2.2.sift fun y hy => Or.inr (N y hy)).mono (by decide) (by decide)⟩⟩
theorem main_1_1 : Claimed_1_1 := comes_1 fun _ _ _ _ _ _ h hF => ⟨h.1, hF⟩
theorem main_1_2 : Claimed_1_2 := comes_1 fun _ _ _ _ _ _ h hF => ⟨h.2.1, hF⟩
end Jvm.Pilot.@@N@@
namespace Jvm.Pilot.@@N@@
open Jvm Jvm.ClassFile Sem Op Lib Jvm.Free Jvm.Stand Jvm.Pilot.@@N@@.Jvm.D
/-! MADE BY PROGRAM (witnessworld.py) out of the Statement's table words and the real class files: 14 classes; the members and pool entries that the words name. The judged class is class 1, her method 1. -/
namespace start1
open Jvm.ClassFile
def u (s : String) : CpInfo := .utf8 (stringToUtf16 s)
/-- a pool by its gaps: so many unusable entries, then the entry; so many at the end -/
def gap : Nat → List CpInfo → List CpInfo
  | 0, r => r
  | n + 1, r => .unusable :: gap n r
def poolList (es : List (Nat × CpInfo)) (last : Nat) : List CpInfo := es.foldr (fun e r => gap e.1 (e.2 :: r)) (gap last [])
def pool (es : List (Nat × CpInfo)) (last : Nat) : Array CpInfo := ⟨poolList es last⟩
def fileOf (pool : Array CpInfo) (this : Nat) (attrs : Array Attribute := #[]) (ms : Array MethodInfo := #[]) (fl : Nat := 33) (sup : Nat := 0) (ifs : Array Nat := #[]) (fds : Array FieldInfo := #[]) : ClassFile where
  minorVersion := 0
  majorVersion := 65
  constantPool := pool
  accessFlags := fl
  thisClass := this
  superClass := sup
  interfaces := ifs
  fields := fds
  methods := ms
  attributes := attrs
def plain (name : String) (sup : Option ClassId) : Class where
  name := name
  kind := .ordinary
  loader := none
  accessFlags := 33
  super := sup
  interfaces := #[]
  cf := none
  fields := #[]
  methods := #[]
  instanceTypes := #[]
  staticTypes := #[]
  resolved := #[]
  callSites := []
  init := .initialized
  statics := none
  mirror := none

def pool0 : Array CpInfo := pool [(5, u "<init>"), (0, u "()V"), (1, .class_ 10), (1, u "java/lang/Object")] 113

def k0c0 : Code := { maxStack := 0, maxLocals := 1, code := object_method_1_code, exceptionTable := #[], attributes := #[] }
def k0m0 : Method := { name := "<init>", desc := "()V", sig := { parameters := [], returnType := none }, accessFlags := 1, code := some k0c0 }
/-- java/lang/Object -/
def k0 : Class := { plain "java/lang/Object" none with
  accessFlags := 33
  interfaces := #[]
  cf := some (fileOf pool0 8 #[] #[{ accessFlags := 1, nameIndex := 5, descriptorIndex := 6, attributes := #[] }] 33 0 #[] #[])
  fields := #[]
  methods := #[k0m0]
  instanceTypes := #[]
  staticTypes := #[]
  resolved := Array.replicate 124 none
  statics := none }

def pool1 : Array CpInfo := pool [(2, .class_ 4), (1, u "java/lang/Object"), (0, u "<init>"), (0, u "()V"), (0, .integer 1048575), (0, .class_ 9), (0, u "com/example/barrault/barrault/service/RevisitPolicy"), (0, .methodref 8 11), (0, .nameAndType 5 12), (0, u "(DDDDD)V"), (0, .methodref 8 14), (0, .nameAndType 15 16), (0, u "waitAfter"), (0, u "(DZ)D"), (0, .class_ 18), (0, u "com/example/barrault/barrault/service/RevisitPolicyWaitAfterPinLaw"), (2, u "law"), (0, u "(IIIIII)Z")] 3

def k1m0 : Method := { name := "<init>", desc := "()V", sig := { parameters := [], returnType := none }, accessFlags := 1, code := none }
def k1c1 : Code := { maxStack := 12, maxLocals := 26, code := code, exceptionTable := #[], attributes := #[] }
def k1m1 : Method := { name := "law", desc := "(IIIIII)Z", sig := { parameters := [.int, .int, .int, .int, .int, .int], returnType := some .boolean }, accessFlags := 9, code := some k1c1 }
/-- com/example/barrault/barrault/service/RevisitPolicyWaitAfterPinLaw -/
def k1 : Class := { plain "com/example/barrault/barrault/service/RevisitPolicyWaitAfterPinLaw" (some 0) with
  accessFlags := 49
  interfaces := #[]
  cf := some (fileOf pool1 17 #[] #[{ accessFlags := 1, nameIndex := 5, descriptorIndex := 6, attributes := #[] }, { accessFlags := 9, nameIndex := 21, descriptorIndex := 22, attributes := #[] }] 49 2 #[] #[])
  fields := #[]
  methods := #[k1m0, k1m1]
  instanceTypes := #[]
  staticTypes := #[]
  resolved := Array.replicate 26 none
  statics := none }

def pool2 : Array CpInfo := pool [(1, .methodref 2 3), (0, .class_ 4), (0, .nameAndType 5 6), (0, u "java/lang/Object"), (0, u "<init>"), (0, u "()V"), (0, .class_ 8), (0, u "java/lang/Record")] 13

def k2c0 : Code := { maxStack := 1, maxLocals := 1, code := jdk_30_method_1_code, exceptionTable := #[], attributes := #[] }
def k2m0 : Method := { name := "<init>", desc := "()V", sig := { parameters := [], returnType := none }, accessFlags := 4, code := some k2c0 }
/-- java/lang/Record -/
def k2 : Class := { plain "java/lang/Record" (some 0) with
  accessFlags := 1057
  interfaces := #[]
  cf := some (fileOf pool2 7 #[] #[{ accessFlags := 4, nameIndex := 5, descriptorIndex := 6, attributes := #[] }] 1057 2 #[] #[])
  fields := #[]
  methods := #[k2m0]
  instanceTypes := #[]
  staticTypes := #[]
  resolved := Array.replicate 22 none
  statics := none }

def pool3 : Array CpInfo := pool [(1, .methodref 2 3), (0, .class_ 4), (0, .nameAndType 5 6), (0, u "java/lang/Record"), (0, u "<init>"), (0, u "()V"), (0, .methodref 8 9), (0, .class_ 10), (0, .nameAndType 11 12), (0, u "java/lang/Double"), (0, u "isFinite"), (0, u "(D)Z"), (12, .fieldref 26 27), (0, .class_ 28), (0, .nameAndType 29 30), (0, u "com/example/barrault/barrault/service/RevisitPolicy"), (0, u "initialWait"), (0, u "D"), (0, .fieldref 26 32), (0, .nameAndType 33 30), (0, u "minWait"), (0, .fieldref 26 35), (0, .nameAndType 36 30), (0, u "maxWait"), (0, .fieldref 26 38), (0, .nameAndType 39 30), (0, u "changedFactor"), (0, .fieldref 26 41), (0, .nameAndType 42 30), (0, u "unchangedFactor"), (0, .methodref 44 45), (0, .class_ 46), (0, .nameAndType 47 48), (0, u "java/lang/Math"), (0, u "max"), (0, u "(DD)D"), (0, .methodref 44 50), (0, .nameAndType 51 48), (0, u "min"), (12, u "(DDDDD)V"), (4, u "waitAfter"), (0, u "(DZ)D")] 38

def k3c0 : Code := { maxStack := 8, maxLocals := 12, code := prog_57_method_1_code, exceptionTable := #[], attributes := #[] }
def k3m0 : Method := { name := "<init>", desc := "(DDDDD)V", sig := { parameters := [.double, .double, .double, .double, .double], returnType := none }, accessFlags := 1, code := some k3c0 }
def k3c1 : Code := { maxStack := 6, maxLocals := 6, code := prog_57_method_2_code, exceptionTable := #[], attributes := #[] }
def k3m1 : Method := { name := "waitAfter", desc := "(DZ)D", sig := { parameters := [.double, .boolean], returnType := some .double }, accessFlags := 1, code := some k3c1 }
/-- com/example/barrault/barrault/service/RevisitPolicy -/
def k3 : Class := { plain "com/example/barrault/barrault/service/RevisitPolicy" (some 2) with
  accessFlags := 49
  interfaces := #[]
  cf := some (fileOf pool3 26 #[] #[{ accessFlags := 1, nameIndex := 5, descriptorIndex := 64, attributes := #[] }, { accessFlags := 1, nameIndex := 69, descriptorIndex := 70, attributes := #[] }] 49 2 #[] #[{ accessFlags := 18, nameIndex := 29, descriptorIndex := 30, attributes := #[] }, { accessFlags := 18, nameIndex := 33, descriptorIndex := 30, attributes := #[] }, { accessFlags := 18, nameIndex := 36, descriptorIndex := 30, attributes := #[] }, { accessFlags := 18, nameIndex := 39, descriptorIndex := 30, attributes := #[] }, { accessFlags := 18, nameIndex := 42, descriptorIndex := 30, attributes := #[] }])
  fields := #[{ name := "initialWait", type := .double, accessFlags := 18, slot := 0, constantValue := 0 }, { name := "minWait", type := .double, accessFlags := 18, slot := 1, constantValue := 0 }, { name := "maxWait", type := .double, accessFlags := 18, slot := 2, constantValue := 0 }, { name := "changedFactor", type := .double, accessFlags := 18, slot := 3, constantValue := 0 }, { name := "unchangedFactor", type := .double, accessFlags := 18, slot := 4, constantValue := 0 }]
  methods := #[k3m0, k3m1]
  instanceTypes := #[.double, .double, .double, .double, .double]
  staticTypes := #[]
  resolved := Array.replicate 109 none
  statics := none }

def pool4 : Array CpInfo := pool [(1, .class_ 2), (0, u "java/io/Serializable"), (0, .class_ 4), (0, u "java/lang/Object")] 2

/-- java/io/Serializable -/
def k4 : Class := { plain "java/io/Serializable" (some 0) with
  accessFlags := 1537
  interfaces := #[]
  cf := some (fileOf pool4 1 #[] #[] 1537 3 #[] #[])
  fields := #[]
  methods := #[]
  instanceTypes := #[]
  staticTypes := #[]
  resolved := Array.replicate 7 none
  statics := none }

def pool5 : Array CpInfo := pool [(2, .class_ 4), (1, u "java/lang/Object"), (0, u "<init>"), (0, u "()V"), (1, .class_ 10), (1, u "java/lang/Number"), (2, .class_ 14), (0, u "java/io/Serializable"), (0, u "serialVersionUID"), (0, u "J")] 20

def k5m0 : Method := { name := "<init>", desc := "()V", sig := { parameters := [], returnType := none }, accessFlags := 1, code := none }
/-- java/lang/Number -/
def k5 : Class := { plain "java/lang/Number" (some 0) with
  accessFlags := 1057
  interfaces := #[4]
  cf := some (fileOf pool5 8 #[] #[{ accessFlags := 1, nameIndex := 5, descriptorIndex := 6, attributes := #[] }] 1057 2 #[13] #[{ accessFlags := 26, nameIndex := 15, descriptorIndex := 16, attributes := #[] }])
  fields := #[{ name := "serialVersionUID", type := .long, accessFlags := 26, slot := 0, constantValue := 0 }]
  methods := #[k5m0]
  instanceTypes := #[]
  staticTypes := #[.long]
  resolved := Array.replicate 37 none
  statics := none }

def pool6 : Array CpInfo := pool [(1, .class_ 2), (0, u "java/lang/Comparable"), (0, .class_ 4), (0, u "java/lang/Object")] 7

/-- java/lang/Comparable -/
def k6 : Class := { plain "java/lang/Comparable" (some 0) with
  accessFlags := 1537
  interfaces := #[]
  cf := some (fileOf pool6 1 #[] #[] 1537 3 #[] #[])
  fields := #[]
  methods := #[]
  instanceTypes := #[]
  staticTypes := #[]
  resolved := Array.replicate 12 none
  statics := none }

def pool7 : Array CpInfo := pool [(1, .class_ 2), (0, u "java/lang/constant/Constable"), (0, .class_ 4), (0, u "java/lang/Object")] 6

/-- java/lang/constant/Constable -/
def k7 : Class := { plain "java/lang/constant/Constable" (some 0) with
  accessFlags := 1537
  interfaces := #[]
  cf := some (fileOf pool7 1 #[] #[] 1537 3 #[] #[])
  fields := #[]
  methods := #[]
  instanceTypes := #[]
  staticTypes := #[]
  resolved := Array.replicate 11 none
  statics := none }

def pool8 : Array CpInfo := pool [(1, .class_ 2), (0, u "java/lang/constant/ConstantDesc"), (0, .class_ 4), (0, u "java/lang/Object")] 32

/-- java/lang/constant/ConstantDesc -/
def k8 : Class := { plain "java/lang/constant/ConstantDesc" (some 0) with
  accessFlags := 1537
  interfaces := #[]
  cf := some (fileOf pool8 1 #[] #[] 1537 3 #[] #[])
  fields := #[]
  methods := #[]
  instanceTypes := #[]
  staticTypes := #[]
  resolved := Array.replicate 37 none
  statics := none }

def pool9 : Array CpInfo := pool [(1, .class_ 2), (0, u "java/lang/Double"), (10, u "isFinite"), (0, u "(D)Z"), (8, .class_ 25), (1, u "java/lang/Math"), (12, .methodref 23 39), (0, .nameAndType 40 41), (0, u "abs"), (0, u "(D)D"), (69, .double 9218868437227405311), (2, .class_ 116), (1, u "java/lang/Number"), (3, u "value"), (0, u "D"), (51, u "TYPE"), (0, u "Ljava/lang/Class;"), (0, .class_ 176), (0, u "java/lang/Comparable"), (0, .class_ 178), (0, u "java/lang/constant/Constable"), (0, .class_ 180), (0, u "java/lang/constant/ConstantDesc"), (0, u "POSITIVE_INFINITY"), (3, u "NEGATIVE_INFINITY"), (2, u "NaN"), (2, u "MAX_VALUE"), (0, u "MIN_NORMAL"), (0, u "MIN_VALUE"), (2, u "SIZE"), (0, u "I"), (1, u "PRECISION"), (1, u "MAX_EXPONENT"), (1, u "MIN_EXPONENT"), (1, u "BYTES"), (3, u "serialVersionUID"), (0, u "J")] 79

def k9c0 : Code := { maxStack := 4, maxLocals := 2, code := jdk_117_method_8_code, exceptionTable := #[], attributes := #[] }
def k9m0 : Method := { name := "isFinite", desc := "(D)Z", sig := { parameters := [.double], returnType := some .boolean }, accessFlags := 9, code := some k9c0 }
/-- java/lang/Double -/
def k9 : Class := { plain "java/lang/Double" (some 5) with
  accessFlags := 49
  interfaces := #[6, 7, 8]
  cf := some (fileOf pool9 1 #[] #[{ accessFlags := 9, nameIndex := 13, descriptorIndex := 14, attributes := #[] }] 49 114 #[175, 177, 179] #[{ accessFlags := 25, nameIndex := 181, descriptorIndex := 121, attributes := #[] }, { accessFlags := 25, nameIndex := 185, descriptorIndex := 121, attributes := #[] }, { accessFlags := 25, nameIndex := 188, descriptorIndex := 121, attributes := #[] }, { accessFlags := 25, nameIndex := 191, descriptorIndex := 121, attributes := #[] }, { accessFlags := 25, nameIndex := 192, descriptorIndex := 121, attributes := #[] }, { accessFlags := 25, nameIndex := 193, descriptorIndex := 121, attributes := #[] }, { accessFlags := 25, nameIndex := 196, descriptorIndex := 197, attributes := #[] }, { accessFlags := 25, nameIndex := 199, descriptorIndex := 197, attributes := #[] }, { accessFlags := 25, nameIndex := 201, descriptorIndex := 197, attributes := #[] }, { accessFlags := 25, nameIndex := 203, descriptorIndex := 197, attributes := #[] }, { accessFlags := 25, nameIndex := 205, descriptorIndex := 197, attributes := #[] }, { accessFlags := 25, nameIndex := 173, descriptorIndex := 174, attributes := #[] }, { accessFlags := 18, nameIndex := 120, descriptorIndex := 121, attributes := #[] }, { accessFlags := 26, nameIndex := 209, descriptorIndex := 210, attributes := #[] }])
  fields := #[{ name := "POSITIVE_INFINITY", type := .double, accessFlags := 25, slot := 0, constantValue := 0 }, { name := "NEGATIVE_INFINITY", type := .double, accessFlags := 25, slot := 1, constantValue := 0 }, { name := "NaN", type := .double, accessFlags := 25, slot := 2, constantValue := 0 }, { name := "MAX_VALUE", type := .double, accessFlags := 25, slot := 3, constantValue := 0 }, { name := "MIN_NORMAL", type := .double, accessFlags := 25, slot := 4, constantValue := 0 }, { name := "MIN_VALUE", type := .double, accessFlags := 25, slot := 5, constantValue := 0 }, { name := "SIZE", type := .int, accessFlags := 25, slot := 6, constantValue := 0 }, { name := "PRECISION", type := .int, accessFlags := 25, slot := 7, constantValue := 0 }, { name := "MAX_EXPONENT", type := .int, accessFlags := 25, slot := 8, constantValue := 0 }, { name := "MIN_EXPONENT", type := .int, accessFlags := 25, slot := 9, constantValue := 0 }, { name := "BYTES", type := .int, accessFlags := 25, slot := 10, constantValue := 0 }, { name := "TYPE", type := (.object "java/lang/Class"), accessFlags := 25, slot := 11, constantValue := 0 }, { name := "value", type := .double, accessFlags := 18, slot := 0, constantValue := 0 }, { name := "serialVersionUID", type := .long, accessFlags := 26, slot := 12, constantValue := 0 }]
  methods := #[k9m0]
  instanceTypes := #[.double]
  staticTypes := #[.double, .double, .double, .double, .double, .double, .int, .int, .int, .int, .int, (.object "java/lang/Class"), .long]
  resolved := Array.replicate 290 none
  statics := none }

def pool10 : Array CpInfo := pool [(1, .class_ 2), (0, u "java/lang/Math"), (1, .class_ 6), (1, u "java/lang/Object"), (0, u "<init>"), (0, u "()V"), (5, u "(D)D"), (37, u "(DD)D"), (45, .class_ 100), (1, u "java/lang/Math$RandomNumberGeneratorHolder"), (23, u "abs"), (47, u "negativeZeroFloatBits"), (0, u "J"), (2, u "negativeZeroDoubleBits"), (21, u "max"), (2, u "min"), (43, u "$assertionsDisabled"), (0, u "Z"), (91, u "twoToTheDoubleScaleDown"), (0, u "D"), (4, u "twoToTheDoubleScaleUp"), (9, u "E"), (3, u "PI"), (2, u "TAU"), (2, u "DEGREES_TO_RADIANS"), (0, u "RADIANS_TO_DEGREES")] 94

def k10m0 : Method := { name := "<init>", desc := "()V", sig := { parameters := [], returnType := none }, accessFlags := 2, code := none }
def k10c1 : Code := { maxStack := 4, maxLocals := 2, code := jdk_29_method_64_code, exceptionTable := #[], attributes := #[] }
def k10m1 : Method := { name := "abs", desc := "(D)D", sig := { parameters := [.double], returnType := some .double }, accessFlags := 9, code := some k10c1 }
def k10c2 : Code := { maxStack := 4, maxLocals := 4, code := jdk_29_method_68_code, exceptionTable := #[], attributes := #[] }
def k10m2 : Method := { name := "max", desc := "(DD)D", sig := { parameters := [.double, .double], returnType := some .double }, accessFlags := 9, code := some k10c2 }
def k10c3 : Code := { maxStack := 4, maxLocals := 4, code := jdk_29_method_72_code, exceptionTable := #[], attributes := #[] }
def k10m3 : Method := { name := "min", desc := "(DD)D", sig := { parameters := [.double, .double], returnType := some .double }, accessFlags := 9, code := some k10c3 }
/-- java/lang/Math -/
def k10 : Class := { plain "java/lang/Math" (some 0) with
  accessFlags := 49
  interfaces := #[]
  cf := some (fileOf pool10 1 #[.nestMembers #[98]] #[{ accessFlags := 2, nameIndex := 7, descriptorIndex := 8, attributes := #[] }, { accessFlags := 9, nameIndex := 124, descriptorIndex := 14, attributes := #[] }, { accessFlags := 9, nameIndex := 198, descriptorIndex := 52, attributes := #[] }, { accessFlags := 9, nameIndex := 201, descriptorIndex := 52, attributes := #[] }] 49 4 #[] #[{ accessFlags := 25, nameIndex := 354, descriptorIndex := 339, attributes := #[] }, { accessFlags := 25, nameIndex := 358, descriptorIndex := 339, attributes := #[] }, { accessFlags := 25, nameIndex := 361, descriptorIndex := 339, attributes := #[] }, { accessFlags := 26, nameIndex := 364, descriptorIndex := 339, attributes := #[] }, { accessFlags := 26, nameIndex := 365, descriptorIndex := 339, attributes := #[] }, { accessFlags := 26, nameIndex := 172, descriptorIndex := 173, attributes := #[] }, { accessFlags := 26, nameIndex := 176, descriptorIndex := 173, attributes := #[] }, { accessFlags := 8, nameIndex := 344, descriptorIndex := 339, attributes := #[] }, { accessFlags := 8, nameIndex := 338, descriptorIndex := 339, attributes := #[] }, { accessFlags := 4120, nameIndex := 245, descriptorIndex := 246, attributes := #[] }])
  fields := #[{ name := "E", type := .double, accessFlags := 25, slot := 0, constantValue := 0 }, { name := "PI", type := .double, accessFlags := 25, slot := 1, constantValue := 0 }, { name := "TAU", type := .double, accessFlags := 25, slot := 2, constantValue := 0 }, { name := "DEGREES_TO_RADIANS", type := .double, accessFlags := 26, slot := 3, constantValue := 0 }, { name := "RADIANS_TO_DEGREES", type := .double, accessFlags := 26, slot := 4, constantValue := 0 }, { name := "negativeZeroFloatBits", type := .long, accessFlags := 26, slot := 5, constantValue := 0 }, { name := "negativeZeroDoubleBits", type := .long, accessFlags := 26, slot := 6, constantValue := 0 }, { name := "twoToTheDoubleScaleUp", type := .double, accessFlags := 8, slot := 7, constantValue := 0 }, { name := "twoToTheDoubleScaleDown", type := .double, accessFlags := 8, slot := 8, constantValue := 0 }, { name := "$assertionsDisabled", type := .boolean, accessFlags := 4120, slot := 9, constantValue := 0 }]
  methods := #[k10m0, k10m1, k10m2, k10m3]
  instanceTypes := #[]
  staticTypes := #[.double, .double, .double, .double, .double, .long, .long, .double, .double, .boolean]
  resolved := Array.replicate 460 none
  statics := none }

def pool11 : Array CpInfo := pool [(1, u "java/lang/Cloneable"), (0, .class_ 1), (0, u "java/lang/Object"), (0, .class_ 3)] 3

/-- java/lang/Cloneable -/
def k11 : Class := { plain "java/lang/Cloneable" (some 0) with
  accessFlags := 1537
  interfaces := #[]
  cf := some (fileOf pool11 2 #[] #[] 1537 4 #[] #[])
  fields := #[]
  methods := #[]
  instanceTypes := #[]
  staticTypes := #[]
  resolved := Array.replicate 8 none
  statics := none }

/-- the primitive byte -/
def k12 : Class := { plain "byte" none with kind := .primitive 'B', accessFlags := 0x411 }
/-- [B -/
def k13 : Class := { plain "[B" (some 0) with kind := .array 12 .byte, interfaces := #[11, 4], accessFlags := 1041 }

def heap : Heap := #[]
def classes : Array Class := #[k0, k1, k2, k3, k4, k5, k6, k7, k8, k9, k10, k11, k12, k13]
def interned : List (Array UInt16 × Addr) := []
def slotsUsed : Nat := 0
def theMethod : MethodId := ⟨1, 1⟩
def args0 : Array Value := #[.int 5, .int 7, .int 9, .int 6, .int 100, .int 1]
def aboutOver (below : List Frame) : State where
  vm := { classes := classes, interned := interned.toArray }
  heap := heap
  slotsUsed := slotsUsed
  threads := #[{ frames := .invoking theMethod args0 :: below }]
def below0 : List Frame := [.native { method := ⟨0, 0⟩, args := #[] }]
def about1 : State := aboutOver below0
def p0 : Program := .bare "" "" ""
def e0 : Env := launch0.env 0 0 0
theorem w_frames : about1.frames = Frame.invoking theMethod args0 :: below0 := rfl
set_option maxRecDepth 65536 in
theorem w_args : argsFit about1.vm theMethod args0 = true := by decide +kernel
set_option maxRecDepth 65536 in
theorem w_heap : heapFits about1 = true := by decide +kernel
set_option maxRecDepth 65536 in
theorem w_runnable : about1.curStatus? = some .runnable := by decide +kernel
set_option maxRecDepth 65536 in
theorem w_alone : about1.alone = true := by decide +kernel
set_option maxRecDepth 65536 in
theorem w_named : about1.methodNamed? x = some theMethod := by decide +kernel
set_option maxRecDepth 65536 in
theorem w_hears : about1.hears theMethod below0 = true := by decide +kernel
set_option maxRecDepth 65536 in
theorem w_ripe : about1.ripe theMethod args0 below0 = true := by decide +kernel
theorem w_running : about1.status = .running := rfl
set_option maxRecDepth 65536 in
theorem w_room : about1.hasRoom e0.platform room_1 = true :=
  launch0.hasRoom_least _ room_1 (by decide +kernel) (by decide +kernel) (by decide +kernel) (by decide +kernel) (by decide +kernel) (by decide +kernel)
theorem allAtoms_all (ts : List Jvm.Cond) (a : Array Jvm.Value) (st : Jvm.State) : (allAtoms ts).before a st = ts.all (fun c => c.before a st) := by
  induction ts with
  | nil => rfl
  | cons c t ih =>
    show (Jvm.Cond.and c (allAtoms t)).before a st = _
    rw [Jvm.Cond.before_and, ih, List.all_cons]
def words1 : List Jvm.Cond := Jvm.Cond.code x code maxLocals ret :: tables_1
/-- a 'code' word, met by the world's own term for the bytes: nothing is compared byte by byte -/
theorem code_word {y : MethodName} {bytes : ByteArray} {mx : Nat} {rt : Option FieldType} {a : Array Value} {s : State} {m : MethodId} {meth : Method} {c : Code} (h1 : s.methodNamed? y = some m) (h2 : s.vm.method? m = some meth) (h3 : meth.code = some c) (h4 : c.code = bytes)
    (h5 : (c.maxLocals == mx && c.exceptionTable.isEmpty && decide (c.maxStack ≤ mostOperands) && decide (meth.sig.returnType = rt) && !meth.locks && decide (parseMethodDescriptor y.desc = some meth.sig)) = true) : (Jvm.Cond.code y bytes mx rt).before a s = true := by
  simp only [Bool.and_eq_true, beq_iff_eq, Bool.not_eq_true', decide_eq_true_eq] at h5
  obtain ⟨⟨⟨⟨⟨g1, g2⟩, g3⟩, g4⟩, g5⟩, g6⟩ := h5
  simp [Cond.before, Cond.holds, Cond.value, h1, h2, h3, h4, g1, g2, g3, g4, g5, g6]
def isCode : Jvm.Cond → Bool
  | .code _ _ _ _ => true
  | _ => false
theorem all_split {L : List Jvm.Cond} {P : Jvm.Cond → Bool} (h1 : L.all (fun c => isCode c || P c) = true) (h2 : ∀ c ∈ L.filter isCode, P c = true) : L.all P = true := by
  refine List.all_eq_true.mpr fun c hc => ?_
  have h := List.all_eq_true.mp h1 c hc
  rcases Bool.eq_false_or_eq_true (isCode c) with hi | hi
  · exact h2 c (List.mem_filter.mpr ⟨hc, hi⟩)
  · simpa [hi] using h
set_option maxRecDepth 65536 in
theorem w_c0 : (Jvm.Cond.code x code maxLocals ret).before args0 about1 = true := code_word (m := ⟨1, 1⟩) (meth := k1m1) (c := k1c1) (by decide +kernel) rfl rfl rfl (by decide +kernel)
set_option maxRecDepth 65536 in
theorem w_c1 : (Jvm.Cond.code ({ cls := "com/example/barrault/barrault/service/RevisitPolicy", name := "<init>", desc := "(DDDDD)V" } : Jvm.MethodName) prog_57_method_1_code (12 : Nat) (Option.none : Option Jvm.ClassFile.FieldType)).before args0 about1 = true := code_word (m := ⟨3, 0⟩) (meth := k3m0) (c := k3c0) (by decide +kernel) rfl rfl rfl (by decide +kernel)
set_option maxRecDepth 65536 in
theorem w_c2 : (Jvm.Cond.code ({ cls := "java/lang/Record", name := "<init>", desc := "()V" } : Jvm.MethodName) jdk_30_method_1_code (1 : Nat) (Option.none : Option Jvm.ClassFile.FieldType)).before args0 about1 = true := code_word (m := ⟨2, 0⟩) (meth := k2m0) (c := k2c0) (by decide +kernel) rfl rfl rfl (by decide +kernel)
set_option maxRecDepth 65536 in
theorem w_c3 : (Jvm.Cond.code ({ cls := "java/lang/Object", name := "<init>", desc := "()V" } : Jvm.MethodName) object_method_1_code (1 : Nat) (Option.none : Option Jvm.ClassFile.FieldType)).before args0 about1 = true := code_word (m := ⟨0, 0⟩) (meth := k0m0) (c := k0c0) (by decide +kernel) rfl rfl rfl (by decide +kernel)
set_option maxRecDepth 65536 in
theorem w_c4 : (Jvm.Cond.code ({ cls := "java/lang/Double", name := "isFinite", desc := "(D)Z" } : Jvm.MethodName) jdk_117_method_8_code (2 : Nat) (Option.some Jvm.ClassFile.FieldType.boolean)).before args0 about1 = true := code_word (m := ⟨9, 0⟩) (meth := k9m0) (c := k9c0) (by decide +kernel) rfl rfl rfl (by decide +kernel)
set_option maxRecDepth 65536 in
theorem w_c5 : (Jvm.Cond.code ({ cls := "java/lang/Math", name := "abs", desc := "(D)D" } : Jvm.MethodName) jdk_29_method_64_code (2 : Nat) (Option.some Jvm.ClassFile.FieldType.double)).before args0 about1 = true := code_word (m := ⟨10, 1⟩) (meth := k10m1) (c := k10c1) (by decide +kernel) rfl rfl rfl (by decide +kernel)
set_option maxRecDepth 65536 in
theorem w_c6 : (Jvm.Cond.code ({ cls := "com/example/barrault/barrault/service/RevisitPolicy", name := "waitAfter", desc := "(DZ)D" } : Jvm.MethodName) prog_57_method_2_code (6 : Nat) (Option.some Jvm.ClassFile.FieldType.double)).before args0 about1 = true := code_word (m := ⟨3, 1⟩) (meth := k3m1) (c := k3c1) (by decide +kernel) rfl rfl rfl (by decide +kernel)
set_option maxRecDepth 65536 in
theorem w_c7 : (Jvm.Cond.code ({ cls := "java/lang/Math", name := "max", desc := "(DD)D" } : Jvm.MethodName) jdk_29_method_68_code (4 : Nat) (Option.some Jvm.ClassFile.FieldType.double)).before args0 about1 = true := code_word (m := ⟨10, 2⟩) (meth := k10m2) (c := k10c2) (by decide +kernel) rfl rfl rfl (by decide +kernel)
set_option maxRecDepth 65536 in
theorem w_c8 : (Jvm.Cond.code ({ cls := "java/lang/Math", name := "min", desc := "(DD)D" } : Jvm.MethodName) jdk_29_method_72_code (4 : Nat) (Option.some Jvm.ClassFile.FieldType.double)).before args0 about1 = true := code_word (m := ⟨10, 3⟩) (meth := k10m3) (c := k10c3) (by decide +kernel) rfl rfl rfl (by decide +kernel)
def codes1 : List Jvm.Cond := [Jvm.Cond.code x code maxLocals ret, Jvm.Cond.code ({ cls := "com/example/barrault/barrault/service/RevisitPolicy", name := "<init>", desc := "(DDDDD)V" } : Jvm.MethodName) prog_57_method_1_code (12 : Nat) (Option.none : Option Jvm.ClassFile.FieldType), Jvm.Cond.code ({ cls := "java/lang/Record", name := "<init>", desc := "()V" } : Jvm.MethodName) jdk_30_method_1_code (1 : Nat) (Option.none : Option Jvm.ClassFile.FieldType), Jvm.Cond.code ({ cls := "java/lang/Object", name := "<init>", desc := "()V" } : Jvm.MethodName) object_method_1_code (1 : Nat) (Option.none : Option Jvm.ClassFile.FieldType), Jvm.Cond.code ({ cls := "java/lang/Double", name := "isFinite", desc := "(D)Z" } : Jvm.MethodName) jdk_117_method_8_code (2 : Nat) (Option.some Jvm.ClassFile.FieldType.boolean), Jvm.Cond.code ({ cls := "java/lang/Math", name := "abs", desc := "(D)D" } : Jvm.MethodName) jdk_29_method_64_code (2 : Nat) (Option.some Jvm.ClassFile.FieldType.double), Jvm.Cond.code ({ cls := "com/example/barrault/barrault/service/RevisitPolicy", name := "waitAfter", desc := "(DZ)D" } : Jvm.MethodName) prog_57_method_2_code (6 : Nat) (Option.some Jvm.ClassFile.FieldType.double), Jvm.Cond.code ({ cls := "java/lang/Math", name := "max", desc := "(DD)D" } : Jvm.MethodName) jdk_29_method_68_code (4 : Nat) (Option.some Jvm.ClassFile.FieldType.double), Jvm.Cond.code ({ cls := "java/lang/Math", name := "min", desc := "(DD)D" } : Jvm.MethodName) jdk_29_method_72_code (4 : Nat) (Option.some Jvm.ClassFile.FieldType.double)]
set_option maxRecDepth 65536 in
theorem codes_eq : words1.filter isCode = codes1 := rfl
theorem w_codes : ∀ c ∈ words1.filter isCode, c.before args0 about1 = true := by
  rw [codes_eq]
  intro c hc
  simp only [codes1, List.mem_cons, List.not_mem_nil, or_false] at hc
  rcases hc with rfl | rfl | rfl | rfl | rfl | rfl | rfl | rfl | rfl
  · exact w_c0
  · exact w_c1
  · exact w_c2
  · exact w_c3
  · exact w_c4
  · exact w_c5
  · exact w_c6
  · exact w_c7
  · exact w_c8
set_option maxRecDepth 65536 in
theorem w_t1 : (words1.take 24).all (fun c => isCode c || c.before args0 about1) = true := by decide +kernel
set_option maxRecDepth 65536 in
theorem w_t2 : (words1.drop 24).all (fun c => isCode c || c.before args0 about1) = true := by decide +kernel
theorem w_tables : (allAtoms (Jvm.Cond.code x code maxLocals ret :: tables_1)).before args0 about1 = true := by
  rw [allAtoms_all]
  show words1.all (fun c => c.before args0 about1) = true
  refine all_split ?_ w_codes
  rw [← List.take_append_drop 24 words1, List.all_append, w_t1, w_t2]
  rfl
set_option maxRecDepth 65536 in
theorem w_case : (Jvm.Cond.and given_1 narrow_1).before args0 about1 = true := by decide +kernel
theorem w_applies : (headSpec (Jvm.Cond.code x code maxLocals ret :: tables_1) room_1).applies x e0.platform about1 = true :=
  (Spec.applies_iff w_frames).mpr ⟨w_running, w_runnable, w_alone, w_named, w_hears, w_ripe, w_room, w_tables⟩
theorem atStart : AtStart classFile x code maxLocals ret World_1 tables_1 room_1 Calls_1 rest_1 Pre_1 launch0 p0 e0 about1 theMethod args0 below0 :=
  ⟨lists_1, trivial, launch0.admits_env _ _ _, launch0.least_env, fairChoices_fair.cas, fairChoices_fair.clock, w_frames, w_args, w_heap, w_applies, trivial, trivial, w_case⟩
end start1
theorem witness_1 : WitnessClaimed_1 := ⟨start1.p0, start1.e0, start1.about1, start1.theMethod, start1.args0, start1.below0, start1.atStart⟩
end Jvm.Pilot.@@N@@
