import JvmDerived
import JvmDerived.Pilot.@@N@@Statement
import JvmDerived.Pilot.@@N@@Code
set_option linter.unusedVariables false
set_option linter.unusedSimpArgs false
namespace Jvm.Pilot.@@N@@
open Jvm Jvm.ClassFile Sem Op Lib Jvm.Free Jvm.Stand Jvm.LawKit Jvm.RoadKit Bundle Jvm.Pilot.@@N@@.Jvm.D
/-- the run from F ends, with an outcome and a state that Φ takes -/
def own_Goes (p : Program) (e : Env) (below : List Frame) (Φ : Outcome → State → Prop) (F : State) : Prop :=
  ∃ s₂ o, Steps p.tables e below F s₂ ∧ s₂.status = .running ∧ Ended s₂ below o ∧ Φ o s₂
theorem own_go {p : Program} {e : Env} {below : List Frame} {Φ : Outcome → State → Prop} {F G : State}
    (k : ∀ t, Steps p.tables e below G t → Steps p.tables e below F t) (h : own_Goes p e below Φ G) : own_Goes p e below Φ F := by
  obtain ⟨s₂, o, h1, h2⟩ := h
  exact ⟨s₂, o, k _ h1, h2⟩
/-- what a contract says of the end -/
def own_End (s : State) (Q : Option Value → Heap → List Loc → Prop) (k n : Nat) (o : Outcome) (U' : State) : Prop :=
  ∃ v L, o = .returned v ∧ Q v U'.heap L ∧ FrameEnd s o U' L k n
/-- a value is returned, the heap is as it was -/
def own_Same (w : Value) (h0 : Heap) (n0 : Nat) (v : Option Value) (h : Heap) (L : List Loc) : Prop := v = some w ∧ Fr n0 L ∧ h = h0
/-- nothing is returned, the heap is as it was -/
def own_SameV (h0 : Heap) (n0 : Nat) (v : Option Value) (h : Heap) (L : List Loc) : Prop := v = none ∧ Fr n0 L ∧ h = h0
section Own
variable {p : Program} {l : Launch} {e : Env} {R : Room} {s : State} {m : MethodId} {args : Array Value} {below : List Frame} {meth : Method} {c : Code} {T : State} {locs : List Loc} {cells slots : Nat}
theorem own_ret (X : Stand p l e R s m args below meth c T locs cells slots) (hx : p.tables.exec = Jvm.exec) {pc : Nat} {Ls : Array Slot} {w : Value} {t : FieldType} {i : Instr} {rest : List Value} (hret : meth.sig.returnType = some t) (hn : narrow t w = w)
    (hi : (i = .ireturn ∧ (t = .int ∨ t = .boolean ∨ t = .byte ∨ t = .char ∨ t = .short) ∧ ∃ z, w = .int z) ∨ (i = .lreturn ∧ t = .long ∧ ∃ z, w = .long z) ∨ (i = .dreturn ∧ t = .double ∧ ∃ z, w = .double z) ∨ (i = .freturn ∧ t = .float ∧ ∃ z, w = .float z) ∨ (i = .areturn ∧ t.isReference = true ∧ w.isRef = true))
    (hd : decode c.code pc = .ok (i, 1)) (hlk : meth.locks = false) {Q : Option Value → Heap → List Loc → Prop} {k n : Nat} (h1 : cells ≤ k) (h2 : slots ≤ n) (hQ : Q (some w) T.heap locs) :
    own_Goes p e below (own_End s Q k n) (T.setTop (mkF m pc Ls (w :: rest))) := by
  obtain ⟨fs, hr, hrun, hended, hW, hsame⟩ := X.leave (v := some w) (fun h => by rw [hret] at h; cases h) hlk
  exact ⟨_, _, retOut X hx hret hn hi hd hr, hrun, hended, _, _, rfl, hQ, ⟨_, rfl⟩, hW, hsame.mono h1 h2⟩
theorem own_retI (X : Stand p l e R s m args below meth c T locs cells slots) (hx : p.tables.exec = Jvm.exec) {pc : Nat} {Ls : Array Slot} {z : Int32} {rest : List Value} (hret : meth.sig.returnType = some .int)
    (hd : decode c.code pc = .ok (.ireturn, 1)) (hlk : meth.locks = false) {Q : Option Value → Heap → List Loc → Prop} {k n : Nat} (h1 : cells ≤ k) (h2 : slots ≤ n) (hQ : Q (some (.int z)) T.heap locs) :
    own_Goes p e below (own_End s Q k n) (T.setTop (mkF m pc Ls (.int z :: rest))) := own_ret X hx hret rfl (Or.inl ⟨rfl, Or.inl rfl, z, rfl⟩) hd hlk h1 h2 hQ
theorem own_retJ (X : Stand p l e R s m args below meth c T locs cells slots) (hx : p.tables.exec = Jvm.exec) {pc : Nat} {Ls : Array Slot} {z : Int64} {rest : List Value} (hret : meth.sig.returnType = some .long)
    (hd : decode c.code pc = .ok (.lreturn, 1)) (hlk : meth.locks = false) {Q : Option Value → Heap → List Loc → Prop} {k n : Nat} (h1 : cells ≤ k) (h2 : slots ≤ n) (hQ : Q (some (.long z)) T.heap locs) :
    own_Goes p e below (own_End s Q k n) (T.setTop (mkF m pc Ls (.long z :: rest))) := own_ret X hx hret rfl (Or.inr (Or.inl ⟨rfl, rfl, z, rfl⟩)) hd hlk h1 h2 hQ
theorem own_retB (X : Stand p l e R s m args below meth c T locs cells slots) (hx : p.tables.exec = Jvm.exec) {pc : Nat} {Ls : Array Slot} {z : Int32} {rest : List Value} (hret : meth.sig.returnType = some .boolean) (hz : z = 0 ∨ z = 1)
    (hd : decode c.code pc = .ok (.ireturn, 1)) (hlk : meth.locks = false) {Q : Option Value → Heap → List Loc → Prop} {k n : Nat} (h1 : cells ≤ k) (h2 : slots ≤ n) (hQ : Q (some (.int z)) T.heap locs) :
    own_Goes p e below (own_End s Q k n) (T.setTop (mkF m pc Ls (.int z :: rest))) := own_ret X hx hret (by rcases hz with rfl | rfl <;> rfl) (Or.inl ⟨rfl, Or.inr (Or.inl rfl), z, rfl⟩) hd hlk h1 h2 hQ
theorem own_ret1 (X : Stand p l e R s m args below meth c T locs cells slots) (hx : p.tables.exec = Jvm.exec) {pc : Nat} {Ls : Array Slot} {rest : List Value} (hret : meth.sig.returnType = some .boolean)
    (hd : decode c.code pc = .ok (.ireturn, 1)) (hlk : meth.locks = false) {Q : Option Value → Heap → List Loc → Prop} {k n : Nat} (h1 : cells ≤ k) (h2 : slots ≤ n) (hQ : Q (some (.int 1)) T.heap locs) :
    own_Goes p e below (own_End s Q k n) (T.setTop (mkF m pc Ls (.int 1 :: rest))) := own_retB X hx hret (Or.inr rfl) hd hlk h1 h2 hQ
theorem own_ret0 (X : Stand p l e R s m args below meth c T locs cells slots) (hx : p.tables.exec = Jvm.exec) {pc : Nat} {Ls : Array Slot} {rest : List Value} (hret : meth.sig.returnType = some .boolean)
    (hd : decode c.code pc = .ok (.ireturn, 1)) (hlk : meth.locks = false) {Q : Option Value → Heap → List Loc → Prop} {k n : Nat} (h1 : cells ≤ k) (h2 : slots ≤ n) (hQ : Q (some (.int 0)) T.heap locs) :
    own_Goes p e below (own_End s Q k n) (T.setTop (mkF m pc Ls (.int 0 :: rest))) := own_retB X hx hret (Or.inl rfl) hd hlk h1 h2 hQ
theorem own_retN (X : Stand p l e R s m args below meth c T locs cells slots) (hx : p.tables.exec = Jvm.exec) {pc : Nat} {Ls : Array Slot} {z : Int32} {t : FieldType} {rest : List Value} (hret : meth.sig.returnType = some t) (ht : t = .boolean ∨ t = .byte ∨ t = .char ∨ t = .short)
    (hd : decode c.code pc = .ok (.ireturn, 1)) (hlk : meth.locks = false) {Q : Option Value → Heap → List Loc → Prop} {k n : Nat} (h1 : cells ≤ k) (h2 : slots ≤ n) (hQ : Q (some (.int (nar t z))) T.heap locs) :
    own_Goes p e below (own_End s Q k n) (T.setTop (mkF m pc Ls (.int z :: rest))) := by
  obtain ⟨fs, hr, hrun, hended, hW, hsame⟩ := X.leave (v := some (.int (nar t z))) (fun h => by rw [hret] at h; cases h) hlk
  exact ⟨_, _, retN X hx hret ht hd hr, hrun, hended, _, _, rfl, hQ, ⟨_, rfl⟩, hW, hsame.mono h1 h2⟩
theorem own_retA (X : Stand p l e R s m args below meth c T locs cells slots) (hx : p.tables.exec = Jvm.exec) {pc : Nat} {Ls : Array Slot} {w : Value} {t : FieldType} {rest : List Value} (hret : meth.sig.returnType = some t) (ht : t.isReference = true) (hw : w.isRef = true)
    (hd : decode c.code pc = .ok (.areturn, 1)) (hlk : meth.locks = false) {Q : Option Value → Heap → List Loc → Prop} {k n : Nat} (h1 : cells ≤ k) (h2 : slots ≤ n) (hQ : Q (some w) T.heap locs) :
    own_Goes p e below (own_End s Q k n) (T.setTop (mkF m pc Ls (w :: rest))) := own_ret X hx hret (by cases t <;> first | rfl | cases ht) (Or.inr (Or.inr (Or.inr (Or.inr ⟨rfl, ht, hw⟩)))) hd hlk h1 h2 hQ
theorem own_retV (X : Stand p l e R s m args below meth c T locs cells slots) (hx : p.tables.exec = Jvm.exec) {pc : Nat} {Ls : Array Slot} (hret : meth.sig.returnType = none)
    (hd : decode c.code pc = .ok (.return_, 1)) (hlk : meth.locks = false) {Q : Option Value → Heap → List Loc → Prop} {k n : Nat} (h1 : cells ≤ k) (h2 : slots ≤ n) (hQ : Q none T.heap locs) :
    own_Goes p e below (own_End s Q k n) (T.setTop (mkF m pc Ls [])) := by
  obtain ⟨fs, hr, hrun, hended, hW, hsame⟩ := X.leave (v := none) (fun _ => rfl) hlk
  exact ⟨_, _, X.returnOut hx hret hd hr, hrun, hended, _, _, rfl, hQ, ⟨_, rfl⟩, hW, hsame.mono h1 h2⟩
end Own
/-- the law says true; nothing old is written -/
def own_True (n0 : Nat) (v : Option Value) (h : Heap) (L : List Loc) : Prop := v = some (.int 1) ∧ Fr n0 L
theorem own_i (x y : Int32) : (x = y ↔ x.toInt = y.toInt) ∧ (x < y ↔ x.toInt < y.toInt) ∧ (x ≤ y ↔ x.toInt ≤ y.toInt) := ⟨Int32.toInt_inj.symm, Int32.lt_iff_toInt_lt, Int32.le_iff_toInt_le⟩
theorem own_ie (x y : Int32) : x = y ↔ x.toInt = y.toInt := Int32.toInt_inj.symm
theorem own_le (x y : Int64) : x = y ↔ x.toInt = y.toInt := Int64.toInt_inj.symm
/-- an array of which the kind and the length alone are told -/
def own_A (Z : State) (h : Heap) (a : Addr) (ty : FieldType) (n : Int32) : Prop := ∃ c : Cell, Arr Z h a c ty ∧ c.slots.size = n.toNatClampNeg ∧ ¬ n < 0
section OwnA
variable {Z : State} {h h' : Heap} {a b : Addr} {ty : FieldType} {n : Int32} {sl : Nat} {v : Value} {ws : List Addr}
theorem own_A.lt (F : own_A Z h a ty n) : a < h.size := by obtain ⟨c, A, -⟩ := F; exact A.lt
theorem own_A.ext (F : own_A Z h a ty n) (E : Ext h h') : own_A Z h' a ty n := by obtain ⟨c, A, r⟩ := F; exact ⟨c, A.ext E, r⟩
theorem own_A.other (F : own_A Z h b ty n) (W : Wr h h' a sl v) (q : b ≠ a) : own_A Z h' b ty n := by obtain ⟨c, A, r⟩ := F; exact ⟨c, A.other W q, r⟩
theorem own_A.same (F : own_A Z h a ty n) (W : Wr h h' a sl v) : own_A Z h' a ty n := by
  obtain ⟨c, A, r1, r2⟩ := F
  exact ⟨_, A.same W, by rw [← r1]; simp [Cell.setSlot], r2⟩
theorem own_A.keep (F : own_A Z h a ty n) (K : Keep h h' ws) (q : a ∉ ws) : own_A Z h' a ty n := by obtain ⟨c, A, r⟩ := F; exact ⟨c, ⟨K.2.1 a c A.1 q, A.2⟩, r⟩
theorem own_A.of {k : ClassId} {vs : List Value} {d : Value} (F : Arv Z h a k ty n vs d) : own_A Z h a ty n := by obtain ⟨c, A, -, r1, r2, -⟩ := F; exact ⟨c, A, r1, r2⟩
end OwnA
theorem own_staKeep {Z : State} {h h' : Heap} {C n d : String} {v : Value} (F : Sta Z h C n d v) (K : Keep h h' []) : Sta Z h' C n d v := by
  obtain ⟨cf, i, k, f, st, cell, h1, h2, h3, h4, h5, r⟩ := F
  exact ⟨cf, i, k, f, st, cell, h1, h2, h3, h4, K.2.1 _ _ h5 nin0, r⟩
theorem d1_0 : decode prog_9_method_4_code 0 = .ok (.iload_n 0, 1) := by decide +kernel
theorem d1_1 : decode prog_9_method_4_code 1 = .ok (.ifCond .eq 9, 3) := by decide +kernel
theorem d1_4 : decode prog_9_method_4_code 4 = .ok (.getstatic 3, 3) := by decide +kernel
theorem d1_7 : decode prog_9_method_4_code 7 = .ok (.goto 6, 3) := by decide +kernel
theorem d1_10 : decode prog_9_method_4_code 10 = .ok (.getstatic 7, 3) := by decide +kernel
theorem d1_13 : decode prog_9_method_4_code 13 = .ok (.areturn, 1) := by decide +kernel
theorem pn1 : plainName "com/example/halitherses/halitherses/TruthValue" = true := by first | (simp [plainName, overriddenIn]; done) | decide +kernel
theorem ef_rm1 (m : MethodId) (p0 : Int32) : entryFrame m #[(.int p0)] 1 = mkF m 0 #[.val (.int p0)] [] := by first | (simp [entryFrame, mkF, argsToLocals, Value.category]; done) | rfl
def F1 (p0 : Int32) (s_TRUE : Addr) (s_FALSE : Addr) : Addr := (if p0 = (0 : Int32) then s_FALSE else s_TRUE)
set_option maxRecDepth 65536 in
set_option maxHeartbeats 40000000 in
theorem rm1 (l : Launch) (Z : State) (a0 : Array Value) (hw : ∀ d ∈ tables_1, d.before a0 Z = true) (ws : List Jvm.Cond) (p0 : Int32) (s_TRUE : Addr) (s_FALSE : Addr) (h0 : Heap) (n0 : Nat) (Z0 : n0 ≤ h0.size) (S_TRUE : Sta Z h0 "com/example/halitherses/halitherses/TruthValue" "TRUE" "Lcom/example/halitherses/halitherses/TruthValue;" (.ref s_TRUE)) (S_FALSE : Sta Z h0 "com/example/halitherses/halitherses/TruthValue" "FALSE" "Lcom/example/halitherses/halitherses/TruthValue;" (.ref s_FALSE)) :
    MetFree l (⟨"com/example/halitherses/halitherses/TruthValue", "of", "(Z)Lcom/example/halitherses/halitherses/TruthValue;"⟩ : MethodName) (head1 (Jvm.Cond.code (⟨"com/example/halitherses/halitherses/TruthValue", "of", "(Z)Lcom/example/halitherses/halitherses/TruthValue;"⟩ : MethodName) prog_9_method_4_code 1 (some (.object "com/example/halitherses/halitherses/TruthValue")) :: ws) ({ frames := 0, cells := 0, slots := 0, locals := 0 } : Room)) (fun a U => a = #[(.int p0)] ∧ Z.Warmed39 U.vm ∧ U.heap = h0) (fun _ _ _ _ _ => True) (fun _ U o U' => ∃ v L, o = .returned v ∧ (own_Same (.ref (F1 p0 s_TRUE s_FALSE)) h0 n0) v U'.heap L ∧ FrameEnd U o U' L 0 0) := by
  refine MetFree.of_bodySF (plainFor_of_name pn1) hisR ?_
  intro p e s m args below meth c s₁ Bd hml0 hP hK
  obtain ⟨rfl, hZ, hh⟩ := hP
  have hx := Bd.exec
  have hby := Bd.bytes
  have hml : c.maxLocals = 1 := hml0
  have hown : s.vm.findClass "com/example/halitherses/halitherses/TruthValue" = some m.cls := findClass_of_methodNamed Bd.named
  have hnm := (name_of_methodNamed Bd.named Bd.method).1
  have X0 : Stand p l e ({ frames := 0, cells := 0, slots := 0, locals := 0 } : Room) s m #[(.int p0)] below meth c s₁ [] 0 0 := Stand.of_body Bd
  have e0 : s₁.heap = h0 := by rw [← hh, Bd.state]; rfl
  have N0 := Fr.nil n0
  show own_Goes p e below (own_End s (own_Same (.ref (F1 p0 s_TRUE s_FALSE)) h0 n0) 0 0) _
  refine own_go (G := s₁.setTop (mkF m 0 #[.val (.int p0)] [])) (fun t k => castTop (ef_rm1 m p0) k) ?_
  refine own_go (G := s₁.setTop (mkF m 1 #[.val (.int p0)] [(.int p0)])) (fun _ k => XS.iloadN X0.here hx rfl (hb hby d1_0) rfl k) ?_
  show own_Goes p e below (own_End s (own_Same (.ref (if p0 = (0 : Int32) then s_FALSE else s_TRUE)) h0 n0) 0 0) _
  by_cases hc1 : p0 = (0 : Int32)
  · rw [if_pos hc1]
    refine own_go (G := s₁.setTop (mkF m 10 #[.val (.int p0)] [])) (fun _ k => XS.ifYes X0.here hx rfl (pc0 := 1) (pc' := 10) rfl (hb hby d1_1) rfl ((if0 _ _).trans (teq hc1).1) (by decide) (by decide) k) ?_
    obtain ⟨T7, X7, e7, st7⟩ := getS2 X0 hx hZ hown (host := "") (Or.inl (hw _ (List.mem_of_getElem? (i := 4) rfl))) Via.refl e0 S_FALSE (g := (mkF m 10 #[.val (.int p0)] [])) rfl (hb hby d1_10)
    refine own_go (G := T7.setTop (mkF m 13 #[.val (.int p0)] [(.ref s_FALSE)])) (st7) ?_
    exact own_retA X7 hx Bd.returns rfl rfl (hb hby d1_13) Bd.notSynchronized (by decide) (by decide) ⟨rfl, N0, e7⟩
  · rw [if_neg hc1]
    refine own_go (G := s₁.setTop (mkF m 4 #[.val (.int p0)] [])) (fun _ k => XS.ifNo X0.here hx rfl (hb hby d1_1) rfl ((if0 _ _).trans (feq hc1).1) k) ?_
    obtain ⟨T8, X8, e8, st8⟩ := getS2 X0 hx hZ hown (host := "") (Or.inl (hw _ (List.mem_of_getElem? (i := 6) rfl))) Via.refl e0 S_TRUE (g := (mkF m 4 #[.val (.int p0)] [])) rfl (hb hby d1_4)
    refine own_go (G := T8.setTop (mkF m 7 #[.val (.int p0)] [(.ref s_TRUE)])) (st8) ?_
    refine own_go (G := T8.setTop (mkF m 13 #[.val (.int p0)] [(.ref s_TRUE)])) (fun _ k => XS.goto X8.here hx rfl (pc0 := 7) (pc' := 13) rfl (hb hby d1_7) (by decide) (by decide) k) ?_
    exact own_retA X8 hx Bd.returns rfl rfl (hb hby d1_13) Bd.notSynchronized (by decide) (by decide) ⟨rfl, N0, e8⟩
theorem own_ord {t : Term} {C n dd : String} {k : Int32} {args : Array Value} {s : State} {a : Addr} (h : (Cond.eq (.field t C n dd) (.int k)).value args s none s [] = some true) (ht : t.eval args s none [] s = some (.ref a)) : Fld s s.heap a C n dd (.int k) := by
  obtain ⟨x, y, h1, h2, -, k2⟩ := cmp_v (Or.inl h)
  have e2 : y = .int k := (Option.some.inj h2).symm
  subst e2
  obtain ⟨z, rfl⟩ := k2
  have e3 : (Cond.eq (.field t C n dd) (.int k)).value args s none s [] = some (decide (z = k)) := by simp [Cond.value, h1, h2]
  have e4 : z = k := gotT e3 h
  subst e4
  rw [fld_at ht] at h1
  exact Fld.start h1
theorem pn0 : plainName "com/example/halitherses/halitherses/TruthValueOfPinLaw" = true := by first | (simp [plainName, overriddenIn]; done) | decide +kernel
theorem pd0 : parseMethodDescriptor "(Z)Lcom/example/halitherses/halitherses/TruthValue;" = some ⟨[.boolean], some (.object "com/example/halitherses/halitherses/TruthValue")⟩ := by decide +kernel
theorem ef_rm0 (m : MethodId) (p0 : Int32) : entryFrame m #[(.int p0)] maxLocals = mkF m 0 #[.val (.int p0), .unset, .unset, .unset, .unset, .unset] [] := by first | (simp [entryFrame, mkF, argsToLocals, Value.category, maxLocals]; done) | rfl
set_option maxRecDepth 65536 in
set_option maxHeartbeats 40000000 in
theorem rm0 (l : Launch) (Z : State) (a0 : Array Value) (hw : ∀ d ∈ tables_1, d.before a0 Z = true) (ws : List Jvm.Cond) (p0 : Int32) (s_TRUE : Addr) (s_FALSE : Addr) (s_UNKNOWN : Addr) (h0 : Heap) (n0 : Nat) (Z0 : n0 ≤ h0.size) (S_TRUE : Sta Z h0 "com/example/halitherses/halitherses/TruthValue" "TRUE" "Lcom/example/halitherses/halitherses/TruthValue;" (.ref s_TRUE)) (S_FALSE : Sta Z h0 "com/example/halitherses/halitherses/TruthValue" "FALSE" "Lcom/example/halitherses/halitherses/TruthValue;" (.ref s_FALSE)) (S_UNKNOWN : Sta Z h0 "com/example/halitherses/halitherses/TruthValue" "UNKNOWN" "Lcom/example/halitherses/halitherses/TruthValue;" (.ref s_UNKNOWN)) (n_TRUE_FALSE : s_TRUE ≠ s_FALSE) (n_TRUE_UNKNOWN : s_TRUE ≠ s_UNKNOWN) (n_FALSE_UNKNOWN : s_FALSE ≠ s_UNKNOWN) :
    MetFree l x (head1 (Jvm.Cond.code x code maxLocals ret :: ws) room_1) (fun a U => a = #[(.int p0)] ∧ Z.Warmed39 U.vm ∧ U.heap = h0) (fun _ _ _ _ _ => True) (fun _ U o U' => ∃ v L, o = .returned v ∧ (own_True n0) v U'.heap L ∧ FrameEnd U o U' L 0 0) := by
  refine MetFree.of_bodySF (plainFor_of_name pn0) hisR ?_
  intro p e s m args below meth c s₁ Bd hml0 hP hK
  obtain ⟨rfl, hZ, hh⟩ := hP
  have hx := Bd.exec
  have hby := Bd.bytes
  have hml : c.maxLocals = 6 := hml0
  have hown : s.vm.findClass "com/example/halitherses/halitherses/TruthValueOfPinLaw" = some m.cls := findClass_of_methodNamed Bd.named
  have hnm := (name_of_methodNamed Bd.named Bd.method).1
  have X0 : Stand p l e room_1 s m #[(.int p0)] below meth c s₁ [] 0 0 := Stand.of_body Bd
  have e0 : s₁.heap = h0 := by rw [← hh, Bd.state]; rfl
  have N0 := Fr.nil n0
  show own_Goes p e below (own_End s (own_True n0) 0 0) _
  refine own_go (G := s₁.setTop (mkF m 0 #[.val (.int p0), .unset, .unset, .unset, .unset, .unset] [])) (fun t k => castTop (ef_rm0 m p0) k) ?_
  refine own_go (G := s₁.setTop (mkF m 1 #[.val (.int p0), .unset, .unset, .unset, .unset, .unset] [(.int p0)])) (fun _ k => XS.iloadN X0.here hx rfl (hb hby at_0) rfl k) ?_
  refine own_go (G := s₁.setTop (mkF m 2 #[.val (.int p0), .unset, .unset, .unset, .unset, .unset] [(.int (1 : Int32)), (.int p0)])) (fun _ k => XS.iconst X0.here hx rfl (hb hby at_1) k) ?_
  refine own_go (G := s₁.setTop (mkF m 3 #[.val (.int p0), .unset, .unset, .unset, .unset, .unset] [(.int (p0 &&& (1 : Int32)))])) (fun _ k => XS.iand X0.here hx rfl (hb hby at_2) rfl k) ?_
  by_cases hc3 : (p0 &&& (1 : Int32)) = (0 : Int32)
  · skip
    refine own_go (G := s₁.setTop (mkF m 10 #[.val (.int p0), .unset, .unset, .unset, .unset, .unset] [])) (fun _ k => XS.ifYes X0.here hx rfl (pc0 := 3) (pc' := 10) rfl (hb hby at_3) rfl ((if0 _ _).trans (teq hc3).1) (by decide) (by decide) k) ?_
    refine own_go (G := s₁.setTop (mkF m 11 #[.val (.int p0), .unset, .unset, .unset, .unset, .unset] [(.int (0 : Int32))])) (fun _ k => XS.iconst X0.here hx rfl (hb hby at_10) k) ?_
    refine own_go (G := s₁.setTop (mkF m 12 #[.val (.int p0), .val (.int (0 : Int32)), .unset, .unset, .unset, .unset] [])) (fun _ k => XS.istoreN X0.here hx rfl (hb hby at_11) rfl (l' := #[.val (.int p0), .val (.int (0 : Int32)), .unset, .unset, .unset, .unset]) rfl k) ?_
    refine own_go (G := s₁.setTop (mkF m 13 #[.val (.int p0), .val (.int (0 : Int32)), .unset, .unset, .unset, .unset] [(.int (0 : Int32))])) (fun _ k => XS.iloadN X0.here hx rfl (hb hby at_12) rfl k) ?_
    obtain ⟨_, _, ⟨T1, L1, k1, n1⟩, -, X1, ⟨Lc1, hQ1, l1, y1, z1⟩, st1⟩ := Jvm.LawKit.callS X0 hx (y := (⟨"com/example/halitherses/halitherses/TruthValue", "of", "(Z)Lcom/example/halitherses/halitherses/TruthValue;"⟩ : MethodName)) hown (mvT hZ (hw _ (List.mem_of_getElem? (i := 0) rfl))) (mvT hZ (hw _ (List.mem_of_getElem? (i := 1) rfl))) (mvT hZ (hw _ (List.mem_of_getElem? (i := 2) rfl))) (mvT hZ (hw _ (List.mem_of_getElem? (i := 3) rfl))) (by decide) (backOf (W := 0) (rm1 l Z a0 hw [] (0 : Int32) s_TRUE s_FALSE h0 n0 Z0 S_TRUE S_FALSE) hZ (hw _ (List.mem_of_getElem? (i := 3) rfl)) (hw _ (List.mem_of_getElem? (i := 2) rfl)) (by decide) (by decide)) (g := (mkF m 13 #[.val (.int p0), .val (.int (0 : Int32)), .unset, .unset, .unset, .unset] [(.int (0 : Int32))])) rfl (by rw [hml]; rfl) (argsL := [(.int (0 : Int32))]) (rest := []) (lenOf pd0 rfl) rfl (by show 2 * 0 + _ ≤ _; exact Nat.le_of_eq rfl) (hb hby at_13) (fun _ _ => ⟨rfl, e0, (by decide : 0 + 0 ≤ _), (by decide : 0 + 0 ≤ _)⟩)
    dsimp only [Pt.U, Pt.locs, Pt.cells, Pt.slots] at X1 l1 y1 z1 st1 hQ1
    subst l1 y1 z1
    obtain ⟨rfl, Nq1, e1⟩ := hQ1
    have N1 := Fr.app N0 Nq1
    have hr1 : F1 (0 : Int32) s_TRUE s_FALSE = s_FALSE := by simp [F1]
    rw [hr1] at st1
    refine own_go (G := T1.setTop (mkF m 16 #[.val (.int p0), .val (.int (0 : Int32)), .unset, .unset, .unset, .unset] [(.ref s_FALSE)])) (st1) ?_
    refine own_go (G := T1.setTop (mkF m 17 #[.val (.int p0), .val (.int (0 : Int32)), .val (.ref s_FALSE), .unset, .unset, .unset] [])) (fun _ k => XS.astoreN X1.here hx rfl (hb hby at_16) rfl rfl (l' := #[.val (.int p0), .val (.int (0 : Int32)), .val (.ref s_FALSE), .unset, .unset, .unset]) rfl k) ?_
    refine own_go (G := T1.setTop (mkF m 18 #[.val (.int p0), .val (.int (0 : Int32)), .val (.ref s_FALSE), .unset, .unset, .unset] [(.int (0 : Int32))])) (fun _ k => XS.iloadN X1.here hx rfl (hb hby at_17) rfl k) ?_
    refine own_go (G := T1.setTop (mkF m 21 #[.val (.int p0), .val (.int (0 : Int32)), .val (.ref s_FALSE), .unset, .unset, .unset] [])) (fun _ k => XS.ifNo X1.here hx rfl (hb hby at_18) rfl ((if0 _ _).trans (teq (by decide : (0 : Int32) = (0 : Int32))).2) k) ?_
    refine own_go (G := T1.setTop (mkF m 22 #[.val (.int p0), .val (.int (0 : Int32)), .val (.ref s_FALSE), .unset, .unset, .unset] [(.int (1 : Int32))])) (fun _ k => XS.iconst X1.here hx rfl (hb hby at_21) k) ?_
    refine own_go (G := T1.setTop (mkF m 26 #[.val (.int p0), .val (.int (0 : Int32)), .val (.ref s_FALSE), .unset, .unset, .unset] [(.int (1 : Int32))])) (fun _ k => XS.goto X1.here hx rfl (pc0 := 22) (pc' := 26) rfl (hb hby at_22) (by decide) (by decide) k) ?_
    obtain ⟨_, _, ⟨T2, L2, k2, n2⟩, -, X2, ⟨Lc2, hQ2, l2, y2, z2⟩, st2⟩ := Jvm.LawKit.callS X1 hx (y := (⟨"com/example/halitherses/halitherses/TruthValue", "of", "(Z)Lcom/example/halitherses/halitherses/TruthValue;"⟩ : MethodName)) hown (mvT hZ (hw _ (List.mem_of_getElem? (i := 0) rfl))) (mvT hZ (hw _ (List.mem_of_getElem? (i := 1) rfl))) (mvT hZ (hw _ (List.mem_of_getElem? (i := 2) rfl))) (mvT hZ (hw _ (List.mem_of_getElem? (i := 3) rfl))) (by decide) (backOf (W := 0) (rm1 l Z a0 hw [] (1 : Int32) s_TRUE s_FALSE h0 n0 Z0 S_TRUE S_FALSE) hZ (hw _ (List.mem_of_getElem? (i := 3) rfl)) (hw _ (List.mem_of_getElem? (i := 2) rfl)) (by decide) (by decide)) (g := (mkF m 26 #[.val (.int p0), .val (.int (0 : Int32)), .val (.ref s_FALSE), .unset, .unset, .unset] [(.int (1 : Int32))])) rfl (by rw [hml]; rfl) (argsL := [(.int (1 : Int32))]) (rest := []) (lenOf pd0 rfl) rfl (by show 2 * 0 + _ ≤ _; exact Nat.le_of_eq rfl) (hb hby at_26) (fun _ _ => ⟨rfl, e1, (by decide : 0 + 0 ≤ _), (by decide : 0 + 0 ≤ _)⟩)
    dsimp only [Pt.U, Pt.locs, Pt.cells, Pt.slots] at X2 l2 y2 z2 st2 hQ2
    subst l2 y2 z2
    obtain ⟨rfl, Nq2, e2⟩ := hQ2
    have N2 := Fr.app N1 Nq2
    have hr2 : F1 (1 : Int32) s_TRUE s_FALSE = s_TRUE := by simp [F1]
    rw [hr2] at st2
    refine own_go (G := T2.setTop (mkF m 29 #[.val (.int p0), .val (.int (0 : Int32)), .val (.ref s_FALSE), .unset, .unset, .unset] [(.ref s_TRUE)])) (st2) ?_
    refine own_go (G := T2.setTop (mkF m 30 #[.val (.int p0), .val (.int (0 : Int32)), .val (.ref s_FALSE), .val (.ref s_TRUE), .unset, .unset] [])) (fun _ k => XS.astoreN X2.here hx rfl (hb hby at_29) rfl rfl (l' := #[.val (.int p0), .val (.int (0 : Int32)), .val (.ref s_FALSE), .val (.ref s_TRUE), .unset, .unset]) rfl k) ?_
    refine own_go (G := T2.setTop (mkF m 31 #[.val (.int p0), .val (.int (0 : Int32)), .val (.ref s_FALSE), .val (.ref s_TRUE), .unset, .unset] [(.ref s_FALSE)])) (fun _ k => XS.aloadN X2.here hx rfl (hb hby at_30) rfl rfl k) ?_
    refine own_go (G := T2.setTop (mkF m 34 #[.val (.int p0), .val (.int (0 : Int32)), .val (.ref s_FALSE), .val (.ref s_TRUE), .unset, .unset] [])) (fun _ k => XS.ifnullNo X2.here hx rfl (hb hby at_31) rfl k) ?_
    refine own_go (G := T2.setTop (mkF m 35 #[.val (.int p0), .val (.int (0 : Int32)), .val (.ref s_FALSE), .val (.ref s_TRUE), .unset, .unset] [(.ref s_TRUE)])) (fun _ k => XS.aloadN X2.here hx rfl (hb hby at_34) rfl rfl k) ?_
    refine own_go (G := T2.setTop (mkF m 40 #[.val (.int p0), .val (.int (0 : Int32)), .val (.ref s_FALSE), .val (.ref s_TRUE), .unset, .unset] [])) (fun _ k => XS.ifnonnullYes X2.here hx rfl (pc0 := 35) (pc' := 40) rfl (hb hby at_35) rfl (by decide) (by decide) k) ?_
    refine own_go (G := T2.setTop (mkF m 41 #[.val (.int p0), .val (.int (0 : Int32)), .val (.ref s_FALSE), .val (.ref s_TRUE), .unset, .unset] [(.ref s_FALSE)])) (fun _ k => XS.aloadN X2.here hx rfl (hb hby at_40) rfl rfl k) ?_
    obtain ⟨T3, X3, e3, st3⟩ := getS2 X2 hx hZ hown (host := "") (Or.inl (hw _ (List.mem_of_getElem? (i := 8) rfl))) Via.refl e2 S_UNKNOWN (g := (mkF m 41 #[.val (.int p0), .val (.int (0 : Int32)), .val (.ref s_FALSE), .val (.ref s_TRUE), .unset, .unset] [(.ref s_FALSE)])) rfl (hb hby at_41)
    refine own_go (G := T3.setTop (mkF m 44 #[.val (.int p0), .val (.int (0 : Int32)), .val (.ref s_FALSE), .val (.ref s_TRUE), .unset, .unset] [(.ref s_UNKNOWN), (.ref s_FALSE)])) (st3) ?_
    refine own_go (G := T3.setTop (mkF m 47 #[.val (.int p0), .val (.int (0 : Int32)), .val (.ref s_FALSE), .val (.ref s_TRUE), .unset, .unset] [])) (fun _ k => Jvm.RoadKit.acmp (g := (mkF m 44 #[.val (.int p0), .val (.int (0 : Int32)), .val (.ref s_FALSE), .val (.ref s_TRUE), .unset, .unset] [(.ref s_UNKNOWN), (.ref s_FALSE)])) X3 hx rfl rfl rfl (pc0 := 44) (pc' := 47) (same := false) rfl (hb hby at_44) rfl (decide_eq_false fun q => n_FALSE_UNKNOWN (Value.ref.inj q)) (by decide) (by decide) k) ?_
    refine own_go (G := T3.setTop (mkF m 48 #[.val (.int p0), .val (.int (0 : Int32)), .val (.ref s_FALSE), .val (.ref s_TRUE), .unset, .unset] [(.ref s_TRUE)])) (fun _ k => XS.aloadN X3.here hx rfl (hb hby at_47) rfl rfl k) ?_
    obtain ⟨T4, X4, e4, st4⟩ := getS2 X3 hx hZ hown (host := "") (Or.inl (hw _ (List.mem_of_getElem? (i := 8) rfl))) Via.refl e3 S_UNKNOWN (g := (mkF m 48 #[.val (.int p0), .val (.int (0 : Int32)), .val (.ref s_FALSE), .val (.ref s_TRUE), .unset, .unset] [(.ref s_TRUE)])) rfl (hb hby at_48)
    refine own_go (G := T4.setTop (mkF m 51 #[.val (.int p0), .val (.int (0 : Int32)), .val (.ref s_FALSE), .val (.ref s_TRUE), .unset, .unset] [(.ref s_UNKNOWN), (.ref s_TRUE)])) (st4) ?_
    refine own_go (G := T4.setTop (mkF m 56 #[.val (.int p0), .val (.int (0 : Int32)), .val (.ref s_FALSE), .val (.ref s_TRUE), .unset, .unset] [])) (fun _ k => Jvm.RoadKit.acmp (g := (mkF m 51 #[.val (.int p0), .val (.int (0 : Int32)), .val (.ref s_FALSE), .val (.ref s_TRUE), .unset, .unset] [(.ref s_UNKNOWN), (.ref s_TRUE)])) X4 hx rfl rfl rfl (pc0 := 51) (pc' := 56) (same := false) rfl (hb hby at_51) rfl (decide_eq_false fun q => n_TRUE_UNKNOWN (Value.ref.inj q)) (by decide) (by decide) k) ?_
    refine own_go (G := T4.setTop (mkF m 57 #[.val (.int p0), .val (.int (0 : Int32)), .val (.ref s_FALSE), .val (.ref s_TRUE), .unset, .unset] [(.ref s_FALSE)])) (fun _ k => XS.aloadN X4.here hx rfl (hb hby at_56) rfl rfl k) ?_
    obtain ⟨T5, X5, e5, st5⟩ := getS2 X4 hx hZ hown (host := "") (Or.inl (hw _ (List.mem_of_getElem? (i := 10) rfl))) Via.refl e4 S_TRUE (g := (mkF m 57 #[.val (.int p0), .val (.int (0 : Int32)), .val (.ref s_FALSE), .val (.ref s_TRUE), .unset, .unset] [(.ref s_FALSE)])) rfl (hb hby at_57)
    refine own_go (G := T5.setTop (mkF m 60 #[.val (.int p0), .val (.int (0 : Int32)), .val (.ref s_FALSE), .val (.ref s_TRUE), .unset, .unset] [(.ref s_TRUE), (.ref s_FALSE)])) (st5) ?_
    refine own_go (G := T5.setTop (mkF m 67 #[.val (.int p0), .val (.int (0 : Int32)), .val (.ref s_FALSE), .val (.ref s_TRUE), .unset, .unset] [])) (fun _ k => Jvm.RoadKit.acmp (g := (mkF m 60 #[.val (.int p0), .val (.int (0 : Int32)), .val (.ref s_FALSE), .val (.ref s_TRUE), .unset, .unset] [(.ref s_TRUE), (.ref s_FALSE)])) X5 hx rfl rfl rfl (pc0 := 60) (pc' := 67) (same := false) rfl (hb hby at_60) rfl (decide_eq_false fun q => (Ne.symm n_TRUE_FALSE) (Value.ref.inj q)) (by decide) (by decide) k) ?_
    refine own_go (G := T5.setTop (mkF m 68 #[.val (.int p0), .val (.int (0 : Int32)), .val (.ref s_FALSE), .val (.ref s_TRUE), .unset, .unset] [(.int (0 : Int32))])) (fun _ k => XS.iconst X5.here hx rfl (hb hby at_67) k) ?_
    refine own_go (G := T5.setTop (mkF m 70 #[.val (.int p0), .val (.int (0 : Int32)), .val (.ref s_FALSE), .val (.ref s_TRUE), .val (.int (0 : Int32)), .unset] [])) (fun _ k => XS.istore X5.here hx rfl (hb hby at_68) rfl (l' := #[.val (.int p0), .val (.int (0 : Int32)), .val (.ref s_FALSE), .val (.ref s_TRUE), .val (.int (0 : Int32)), .unset]) rfl k) ?_
    refine own_go (G := T5.setTop (mkF m 71 #[.val (.int p0), .val (.int (0 : Int32)), .val (.ref s_FALSE), .val (.ref s_TRUE), .val (.int (0 : Int32)), .unset] [(.ref s_FALSE)])) (fun _ k => XS.aloadN X5.here hx rfl (hb hby at_70) rfl rfl k) ?_
    obtain ⟨T6, X6, e6, st6⟩ := getS2 X5 hx hZ hown (host := "") (Or.inl (hw _ (List.mem_of_getElem? (i := 11) rfl))) Via.refl e5 S_FALSE (g := (mkF m 71 #[.val (.int p0), .val (.int (0 : Int32)), .val (.ref s_FALSE), .val (.ref s_TRUE), .val (.int (0 : Int32)), .unset] [(.ref s_FALSE)])) rfl (hb hby at_71)
    refine own_go (G := T6.setTop (mkF m 74 #[.val (.int p0), .val (.int (0 : Int32)), .val (.ref s_FALSE), .val (.ref s_TRUE), .val (.int (0 : Int32)), .unset] [(.ref s_FALSE), (.ref s_FALSE)])) (st6) ?_
    refine own_go (G := T6.setTop (mkF m 77 #[.val (.int p0), .val (.int (0 : Int32)), .val (.ref s_FALSE), .val (.ref s_TRUE), .val (.int (0 : Int32)), .unset] [])) (fun _ k => Jvm.RoadKit.acmp (g := (mkF m 74 #[.val (.int p0), .val (.int (0 : Int32)), .val (.ref s_FALSE), .val (.ref s_TRUE), .val (.int (0 : Int32)), .unset] [(.ref s_FALSE), (.ref s_FALSE)])) X6 hx rfl rfl rfl (pc0 := 74) (pc' := 77) (same := true) rfl (hb hby at_74) rfl (decide_eq_true rfl) (by decide) (by decide) k) ?_
    refine own_go (G := T6.setTop (mkF m 78 #[.val (.int p0), .val (.int (0 : Int32)), .val (.ref s_FALSE), .val (.ref s_TRUE), .val (.int (0 : Int32)), .unset] [(.int (1 : Int32))])) (fun _ k => XS.iconst X6.here hx rfl (hb hby at_77) k) ?_
    refine own_go (G := T6.setTop (mkF m 82 #[.val (.int p0), .val (.int (0 : Int32)), .val (.ref s_FALSE), .val (.ref s_TRUE), .val (.int (0 : Int32)), .unset] [(.int (1 : Int32))])) (fun _ k => XS.goto X6.here hx rfl (pc0 := 78) (pc' := 82) rfl (hb hby at_78) (by decide) (by decide) k) ?_
    refine own_go (G := T6.setTop (mkF m 84 #[.val (.int p0), .val (.int (0 : Int32)), .val (.ref s_FALSE), .val (.ref s_TRUE), .val (.int (0 : Int32)), .val (.int (1 : Int32))] [])) (fun _ k => XS.istore X6.here hx rfl (hb hby at_82) rfl (l' := #[.val (.int p0), .val (.int (0 : Int32)), .val (.ref s_FALSE), .val (.ref s_TRUE), .val (.int (0 : Int32)), .val (.int (1 : Int32))]) rfl k) ?_
    refine own_go (G := T6.setTop (mkF m 86 #[.val (.int p0), .val (.int (0 : Int32)), .val (.ref s_FALSE), .val (.ref s_TRUE), .val (.int (0 : Int32)), .val (.int (1 : Int32))] [(.int (0 : Int32))])) (fun _ k => XS.iload X6.here hx rfl (hb hby at_84) rfl k) ?_
    refine own_go (G := T6.setTop (mkF m 87 #[.val (.int p0), .val (.int (0 : Int32)), .val (.ref s_FALSE), .val (.ref s_TRUE), .val (.int (0 : Int32)), .val (.int (1 : Int32))] [(.int (0 : Int32)), (.int (0 : Int32))])) (fun _ k => XS.iloadN X6.here hx rfl (hb hby at_86) rfl k) ?_
    refine own_go (G := T6.setTop (mkF m 90 #[.val (.int p0), .val (.int (0 : Int32)), .val (.ref s_FALSE), .val (.ref s_TRUE), .val (.int (0 : Int32)), .val (.int (1 : Int32))] [])) (fun _ k => XS.icmpNo X6.here hx rfl (hb hby at_87) rfl (teq (by decide : (0 : Int32) = (0 : Int32))).2 k) ?_
    refine own_go (G := T6.setTop (mkF m 92 #[.val (.int p0), .val (.int (0 : Int32)), .val (.ref s_FALSE), .val (.ref s_TRUE), .val (.int (0 : Int32)), .val (.int (1 : Int32))] [(.int (1 : Int32))])) (fun _ k => XS.iload X6.here hx rfl (hb hby at_90) rfl k) ?_
    refine own_go (G := T6.setTop (mkF m 93 #[.val (.int p0), .val (.int (0 : Int32)), .val (.ref s_FALSE), .val (.ref s_TRUE), .val (.int (0 : Int32)), .val (.int (1 : Int32))] [(.int (0 : Int32)), (.int (1 : Int32))])) (fun _ k => XS.iloadN X6.here hx rfl (hb hby at_92) rfl k) ?_
    refine own_go (G := T6.setTop (mkF m 96 #[.val (.int p0), .val (.int (0 : Int32)), .val (.ref s_FALSE), .val (.ref s_TRUE), .val (.int (0 : Int32)), .val (.int (1 : Int32))] [(.int (1 : Int32))])) (fun _ k => XS.ifNo X6.here hx rfl (hb hby at_93) rfl ((if0 _ _).trans (teq (by decide : (0 : Int32) = (0 : Int32))).2) k) ?_
    refine own_go (G := T6.setTop (mkF m 97 #[.val (.int p0), .val (.int (0 : Int32)), .val (.ref s_FALSE), .val (.ref s_TRUE), .val (.int (0 : Int32)), .val (.int (1 : Int32))] [(.int (1 : Int32)), (.int (1 : Int32))])) (fun _ k => XS.iconst X6.here hx rfl (hb hby at_96) k) ?_
    refine own_go (G := T6.setTop (mkF m 101 #[.val (.int p0), .val (.int (0 : Int32)), .val (.ref s_FALSE), .val (.ref s_TRUE), .val (.int (0 : Int32)), .val (.int (1 : Int32))] [(.int (1 : Int32)), (.int (1 : Int32))])) (fun _ k => XS.goto X6.here hx rfl (pc0 := 97) (pc' := 101) rfl (hb hby at_97) (by decide) (by decide) k) ?_
    refine own_go (G := T6.setTop (mkF m 104 #[.val (.int p0), .val (.int (0 : Int32)), .val (.ref s_FALSE), .val (.ref s_TRUE), .val (.int (0 : Int32)), .val (.int (1 : Int32))] [])) (fun _ k => XS.icmpNo X6.here hx rfl (hb hby at_101) rfl (teq (by decide : (1 : Int32) = (1 : Int32))).2 k) ?_
    refine own_go (G := T6.setTop (mkF m 105 #[.val (.int p0), .val (.int (0 : Int32)), .val (.ref s_FALSE), .val (.ref s_TRUE), .val (.int (0 : Int32)), .val (.int (1 : Int32))] [(.ref s_TRUE)])) (fun _ k => XS.aloadN X6.here hx rfl (hb hby at_104) rfl rfl k) ?_
    refine own_go (G := T6.setTop (mkF m 106 #[.val (.int p0), .val (.int (0 : Int32)), .val (.ref s_FALSE), .val (.ref s_TRUE), .val (.int (0 : Int32)), .val (.int (1 : Int32))] [(.ref s_FALSE), (.ref s_TRUE)])) (fun _ k => XS.aloadN X6.here hx rfl (hb hby at_105) rfl rfl k) ?_
    refine own_go (G := T6.setTop (mkF m 109 #[.val (.int p0), .val (.int (0 : Int32)), .val (.ref s_FALSE), .val (.ref s_TRUE), .val (.int (0 : Int32)), .val (.int (1 : Int32))] [])) (fun _ k => Jvm.RoadKit.acmp (g := (mkF m 106 #[.val (.int p0), .val (.int (0 : Int32)), .val (.ref s_FALSE), .val (.ref s_TRUE), .val (.int (0 : Int32)), .val (.int (1 : Int32))] [(.ref s_FALSE), (.ref s_TRUE)])) X6 hx rfl rfl rfl (pc0 := 106) (pc' := 109) (same := false) rfl (hb hby at_106) rfl (decide_eq_false fun q => n_TRUE_FALSE (Value.ref.inj q)) (by decide) (by decide) k) ?_
    refine own_go (G := T6.setTop (mkF m 110 #[.val (.int p0), .val (.int (0 : Int32)), .val (.ref s_FALSE), .val (.ref s_TRUE), .val (.int (0 : Int32)), .val (.int (1 : Int32))] [(.int (1 : Int32))])) (fun _ k => XS.iconst X6.here hx rfl (hb hby at_109) k) ?_
    refine own_go (G := T6.setTop (mkF m 114 #[.val (.int p0), .val (.int (0 : Int32)), .val (.ref s_FALSE), .val (.ref s_TRUE), .val (.int (0 : Int32)), .val (.int (1 : Int32))] [(.int (1 : Int32))])) (fun _ k => XS.goto X6.here hx rfl (pc0 := 110) (pc' := 114) rfl (hb hby at_110) (by decide) (by decide) k) ?_
    exact own_ret1 X6 hx Bd.returns (hb hby at_114) Bd.notSynchronized (by decide) (by decide) ⟨rfl, N2⟩
  · skip
    refine own_go (G := s₁.setTop (mkF m 6 #[.val (.int p0), .unset, .unset, .unset, .unset, .unset] [])) (fun _ k => XS.ifNo X0.here hx rfl (hb hby at_3) rfl ((if0 _ _).trans (feq hc3).1) k) ?_
    refine own_go (G := s₁.setTop (mkF m 7 #[.val (.int p0), .unset, .unset, .unset, .unset, .unset] [(.int (1 : Int32))])) (fun _ k => XS.iconst X0.here hx rfl (hb hby at_6) k) ?_
    refine own_go (G := s₁.setTop (mkF m 11 #[.val (.int p0), .unset, .unset, .unset, .unset, .unset] [(.int (1 : Int32))])) (fun _ k => XS.goto X0.here hx rfl (pc0 := 7) (pc' := 11) rfl (hb hby at_7) (by decide) (by decide) k) ?_
    refine own_go (G := s₁.setTop (mkF m 12 #[.val (.int p0), .val (.int (1 : Int32)), .unset, .unset, .unset, .unset] [])) (fun _ k => XS.istoreN X0.here hx rfl (hb hby at_11) rfl (l' := #[.val (.int p0), .val (.int (1 : Int32)), .unset, .unset, .unset, .unset]) rfl k) ?_
    refine own_go (G := s₁.setTop (mkF m 13 #[.val (.int p0), .val (.int (1 : Int32)), .unset, .unset, .unset, .unset] [(.int (1 : Int32))])) (fun _ k => XS.iloadN X0.here hx rfl (hb hby at_12) rfl k) ?_
    obtain ⟨_, _, ⟨T7, L7, k7, n7⟩, -, X7, ⟨Lc7, hQ7, l7, y7, z7⟩, st7⟩ := Jvm.LawKit.callS X0 hx (y := (⟨"com/example/halitherses/halitherses/TruthValue", "of", "(Z)Lcom/example/halitherses/halitherses/TruthValue;"⟩ : MethodName)) hown (mvT hZ (hw _ (List.mem_of_getElem? (i := 0) rfl))) (mvT hZ (hw _ (List.mem_of_getElem? (i := 1) rfl))) (mvT hZ (hw _ (List.mem_of_getElem? (i := 2) rfl))) (mvT hZ (hw _ (List.mem_of_getElem? (i := 3) rfl))) (by decide) (backOf (W := 0) (rm1 l Z a0 hw [] (1 : Int32) s_TRUE s_FALSE h0 n0 Z0 S_TRUE S_FALSE) hZ (hw _ (List.mem_of_getElem? (i := 3) rfl)) (hw _ (List.mem_of_getElem? (i := 2) rfl)) (by decide) (by decide)) (g := (mkF m 13 #[.val (.int p0), .val (.int (1 : Int32)), .unset, .unset, .unset, .unset] [(.int (1 : Int32))])) rfl (by rw [hml]; rfl) (argsL := [(.int (1 : Int32))]) (rest := []) (lenOf pd0 rfl) rfl (by show 2 * 0 + _ ≤ _; exact Nat.le_of_eq rfl) (hb hby at_13) (fun _ _ => ⟨rfl, e0, (by decide : 0 + 0 ≤ _), (by decide : 0 + 0 ≤ _)⟩)
    dsimp only [Pt.U, Pt.locs, Pt.cells, Pt.slots] at X7 l7 y7 z7 st7 hQ7
    subst l7 y7 z7
    obtain ⟨rfl, Nq7, e7⟩ := hQ7
    have N7 := Fr.app N0 Nq7
    have hr7 : F1 (1 : Int32) s_TRUE s_FALSE = s_TRUE := by simp [F1]
    rw [hr7] at st7
    refine own_go (G := T7.setTop (mkF m 16 #[.val (.int p0), .val (.int (1 : Int32)), .unset, .unset, .unset, .unset] [(.ref s_TRUE)])) (st7) ?_
    refine own_go (G := T7.setTop (mkF m 17 #[.val (.int p0), .val (.int (1 : Int32)), .val (.ref s_TRUE), .unset, .unset, .unset] [])) (fun _ k => XS.astoreN X7.here hx rfl (hb hby at_16) rfl rfl (l' := #[.val (.int p0), .val (.int (1 : Int32)), .val (.ref s_TRUE), .unset, .unset, .unset]) rfl k) ?_
    refine own_go (G := T7.setTop (mkF m 18 #[.val (.int p0), .val (.int (1 : Int32)), .val (.ref s_TRUE), .unset, .unset, .unset] [(.int (1 : Int32))])) (fun _ k => XS.iloadN X7.here hx rfl (hb hby at_17) rfl k) ?_
    refine own_go (G := T7.setTop (mkF m 25 #[.val (.int p0), .val (.int (1 : Int32)), .val (.ref s_TRUE), .unset, .unset, .unset] [])) (fun _ k => XS.ifYes X7.here hx rfl (pc0 := 18) (pc' := 25) rfl (hb hby at_18) rfl ((if0 _ _).trans (feq (by decide : ¬ ((1 : Int32) = (0 : Int32)))).2) (by decide) (by decide) k) ?_
    refine own_go (G := T7.setTop (mkF m 26 #[.val (.int p0), .val (.int (1 : Int32)), .val (.ref s_TRUE), .unset, .unset, .unset] [(.int (0 : Int32))])) (fun _ k => XS.iconst X7.here hx rfl (hb hby at_25) k) ?_
    obtain ⟨_, _, ⟨T8, L8, k8, n8⟩, -, X8, ⟨Lc8, hQ8, l8, y8, z8⟩, st8⟩ := Jvm.LawKit.callS X7 hx (y := (⟨"com/example/halitherses/halitherses/TruthValue", "of", "(Z)Lcom/example/halitherses/halitherses/TruthValue;"⟩ : MethodName)) hown (mvT hZ (hw _ (List.mem_of_getElem? (i := 0) rfl))) (mvT hZ (hw _ (List.mem_of_getElem? (i := 1) rfl))) (mvT hZ (hw _ (List.mem_of_getElem? (i := 2) rfl))) (mvT hZ (hw _ (List.mem_of_getElem? (i := 3) rfl))) (by decide) (backOf (W := 0) (rm1 l Z a0 hw [] (0 : Int32) s_TRUE s_FALSE h0 n0 Z0 S_TRUE S_FALSE) hZ (hw _ (List.mem_of_getElem? (i := 3) rfl)) (hw _ (List.mem_of_getElem? (i := 2) rfl)) (by decide) (by decide)) (g := (mkF m 26 #[.val (.int p0), .val (.int (1 : Int32)), .val (.ref s_TRUE), .unset, .unset, .unset] [(.int (0 : Int32))])) rfl (by rw [hml]; rfl) (argsL := [(.int (0 : Int32))]) (rest := []) (lenOf pd0 rfl) rfl (by show 2 * 0 + _ ≤ _; exact Nat.le_of_eq rfl) (hb hby at_26) (fun _ _ => ⟨rfl, e7, (by decide : 0 + 0 ≤ _), (by decide : 0 + 0 ≤ _)⟩)
    dsimp only [Pt.U, Pt.locs, Pt.cells, Pt.slots] at X8 l8 y8 z8 st8 hQ8
    subst l8 y8 z8
    obtain ⟨rfl, Nq8, e8⟩ := hQ8
    have N8 := Fr.app N7 Nq8
    have hr8 : F1 (0 : Int32) s_TRUE s_FALSE = s_FALSE := by simp [F1]
    rw [hr8] at st8
    refine own_go (G := T8.setTop (mkF m 29 #[.val (.int p0), .val (.int (1 : Int32)), .val (.ref s_TRUE), .unset, .unset, .unset] [(.ref s_FALSE)])) (st8) ?_
    refine own_go (G := T8.setTop (mkF m 30 #[.val (.int p0), .val (.int (1 : Int32)), .val (.ref s_TRUE), .val (.ref s_FALSE), .unset, .unset] [])) (fun _ k => XS.astoreN X8.here hx rfl (hb hby at_29) rfl rfl (l' := #[.val (.int p0), .val (.int (1 : Int32)), .val (.ref s_TRUE), .val (.ref s_FALSE), .unset, .unset]) rfl k) ?_
    refine own_go (G := T8.setTop (mkF m 31 #[.val (.int p0), .val (.int (1 : Int32)), .val (.ref s_TRUE), .val (.ref s_FALSE), .unset, .unset] [(.ref s_TRUE)])) (fun _ k => XS.aloadN X8.here hx rfl (hb hby at_30) rfl rfl k) ?_
    refine own_go (G := T8.setTop (mkF m 34 #[.val (.int p0), .val (.int (1 : Int32)), .val (.ref s_TRUE), .val (.ref s_FALSE), .unset, .unset] [])) (fun _ k => XS.ifnullNo X8.here hx rfl (hb hby at_31) rfl k) ?_
    refine own_go (G := T8.setTop (mkF m 35 #[.val (.int p0), .val (.int (1 : Int32)), .val (.ref s_TRUE), .val (.ref s_FALSE), .unset, .unset] [(.ref s_FALSE)])) (fun _ k => XS.aloadN X8.here hx rfl (hb hby at_34) rfl rfl k) ?_
    refine own_go (G := T8.setTop (mkF m 40 #[.val (.int p0), .val (.int (1 : Int32)), .val (.ref s_TRUE), .val (.ref s_FALSE), .unset, .unset] [])) (fun _ k => XS.ifnonnullYes X8.here hx rfl (pc0 := 35) (pc' := 40) rfl (hb hby at_35) rfl (by decide) (by decide) k) ?_
    refine own_go (G := T8.setTop (mkF m 41 #[.val (.int p0), .val (.int (1 : Int32)), .val (.ref s_TRUE), .val (.ref s_FALSE), .unset, .unset] [(.ref s_TRUE)])) (fun _ k => XS.aloadN X8.here hx rfl (hb hby at_40) rfl rfl k) ?_
    obtain ⟨T9, X9, e9, st9⟩ := getS2 X8 hx hZ hown (host := "") (Or.inl (hw _ (List.mem_of_getElem? (i := 8) rfl))) Via.refl e8 S_UNKNOWN (g := (mkF m 41 #[.val (.int p0), .val (.int (1 : Int32)), .val (.ref s_TRUE), .val (.ref s_FALSE), .unset, .unset] [(.ref s_TRUE)])) rfl (hb hby at_41)
    refine own_go (G := T9.setTop (mkF m 44 #[.val (.int p0), .val (.int (1 : Int32)), .val (.ref s_TRUE), .val (.ref s_FALSE), .unset, .unset] [(.ref s_UNKNOWN), (.ref s_TRUE)])) (st9) ?_
    refine own_go (G := T9.setTop (mkF m 47 #[.val (.int p0), .val (.int (1 : Int32)), .val (.ref s_TRUE), .val (.ref s_FALSE), .unset, .unset] [])) (fun _ k => Jvm.RoadKit.acmp (g := (mkF m 44 #[.val (.int p0), .val (.int (1 : Int32)), .val (.ref s_TRUE), .val (.ref s_FALSE), .unset, .unset] [(.ref s_UNKNOWN), (.ref s_TRUE)])) X9 hx rfl rfl rfl (pc0 := 44) (pc' := 47) (same := false) rfl (hb hby at_44) rfl (decide_eq_false fun q => n_TRUE_UNKNOWN (Value.ref.inj q)) (by decide) (by decide) k) ?_
    refine own_go (G := T9.setTop (mkF m 48 #[.val (.int p0), .val (.int (1 : Int32)), .val (.ref s_TRUE), .val (.ref s_FALSE), .unset, .unset] [(.ref s_FALSE)])) (fun _ k => XS.aloadN X9.here hx rfl (hb hby at_47) rfl rfl k) ?_
    obtain ⟨T10, X10, e10, st10⟩ := getS2 X9 hx hZ hown (host := "") (Or.inl (hw _ (List.mem_of_getElem? (i := 8) rfl))) Via.refl e9 S_UNKNOWN (g := (mkF m 48 #[.val (.int p0), .val (.int (1 : Int32)), .val (.ref s_TRUE), .val (.ref s_FALSE), .unset, .unset] [(.ref s_FALSE)])) rfl (hb hby at_48)
    refine own_go (G := T10.setTop (mkF m 51 #[.val (.int p0), .val (.int (1 : Int32)), .val (.ref s_TRUE), .val (.ref s_FALSE), .unset, .unset] [(.ref s_UNKNOWN), (.ref s_FALSE)])) (st10) ?_
    refine own_go (G := T10.setTop (mkF m 56 #[.val (.int p0), .val (.int (1 : Int32)), .val (.ref s_TRUE), .val (.ref s_FALSE), .unset, .unset] [])) (fun _ k => Jvm.RoadKit.acmp (g := (mkF m 51 #[.val (.int p0), .val (.int (1 : Int32)), .val (.ref s_TRUE), .val (.ref s_FALSE), .unset, .unset] [(.ref s_UNKNOWN), (.ref s_FALSE)])) X10 hx rfl rfl rfl (pc0 := 51) (pc' := 56) (same := false) rfl (hb hby at_51) rfl (decide_eq_false fun q => n_FALSE_UNKNOWN (Value.ref.inj q)) (by decide) (by decide) k) ?_
    refine own_go (G := T10.setTop (mkF m 57 #[.val (.int p0), .val (.int (1 : Int32)), .val (.ref s_TRUE), .val (.ref s_FALSE), .unset, .unset] [(.ref s_TRUE)])) (fun _ k => XS.aloadN X10.here hx rfl (hb hby at_56) rfl rfl k) ?_
    obtain ⟨T11, X11, e11, st11⟩ := getS2 X10 hx hZ hown (host := "") (Or.inl (hw _ (List.mem_of_getElem? (i := 10) rfl))) Via.refl e10 S_TRUE (g := (mkF m 57 #[.val (.int p0), .val (.int (1 : Int32)), .val (.ref s_TRUE), .val (.ref s_FALSE), .unset, .unset] [(.ref s_TRUE)])) rfl (hb hby at_57)
    refine own_go (G := T11.setTop (mkF m 60 #[.val (.int p0), .val (.int (1 : Int32)), .val (.ref s_TRUE), .val (.ref s_FALSE), .unset, .unset] [(.ref s_TRUE), (.ref s_TRUE)])) (st11) ?_
    refine own_go (G := T11.setTop (mkF m 63 #[.val (.int p0), .val (.int (1 : Int32)), .val (.ref s_TRUE), .val (.ref s_FALSE), .unset, .unset] [])) (fun _ k => Jvm.RoadKit.acmp (g := (mkF m 60 #[.val (.int p0), .val (.int (1 : Int32)), .val (.ref s_TRUE), .val (.ref s_FALSE), .unset, .unset] [(.ref s_TRUE), (.ref s_TRUE)])) X11 hx rfl rfl rfl (pc0 := 60) (pc' := 63) (same := true) rfl (hb hby at_60) rfl (decide_eq_true rfl) (by decide) (by decide) k) ?_
    refine own_go (G := T11.setTop (mkF m 64 #[.val (.int p0), .val (.int (1 : Int32)), .val (.ref s_TRUE), .val (.ref s_FALSE), .unset, .unset] [(.int (1 : Int32))])) (fun _ k => XS.iconst X11.here hx rfl (hb hby at_63) k) ?_
    refine own_go (G := T11.setTop (mkF m 68 #[.val (.int p0), .val (.int (1 : Int32)), .val (.ref s_TRUE), .val (.ref s_FALSE), .unset, .unset] [(.int (1 : Int32))])) (fun _ k => XS.goto X11.here hx rfl (pc0 := 64) (pc' := 68) rfl (hb hby at_64) (by decide) (by decide) k) ?_
    refine own_go (G := T11.setTop (mkF m 70 #[.val (.int p0), .val (.int (1 : Int32)), .val (.ref s_TRUE), .val (.ref s_FALSE), .val (.int (1 : Int32)), .unset] [])) (fun _ k => XS.istore X11.here hx rfl (hb hby at_68) rfl (l' := #[.val (.int p0), .val (.int (1 : Int32)), .val (.ref s_TRUE), .val (.ref s_FALSE), .val (.int (1 : Int32)), .unset]) rfl k) ?_
    refine own_go (G := T11.setTop (mkF m 71 #[.val (.int p0), .val (.int (1 : Int32)), .val (.ref s_TRUE), .val (.ref s_FALSE), .val (.int (1 : Int32)), .unset] [(.ref s_TRUE)])) (fun _ k => XS.aloadN X11.here hx rfl (hb hby at_70) rfl rfl k) ?_
    obtain ⟨T12, X12, e12, st12⟩ := getS2 X11 hx hZ hown (host := "") (Or.inl (hw _ (List.mem_of_getElem? (i := 11) rfl))) Via.refl e11 S_FALSE (g := (mkF m 71 #[.val (.int p0), .val (.int (1 : Int32)), .val (.ref s_TRUE), .val (.ref s_FALSE), .val (.int (1 : Int32)), .unset] [(.ref s_TRUE)])) rfl (hb hby at_71)
    refine own_go (G := T12.setTop (mkF m 74 #[.val (.int p0), .val (.int (1 : Int32)), .val (.ref s_TRUE), .val (.ref s_FALSE), .val (.int (1 : Int32)), .unset] [(.ref s_FALSE), (.ref s_TRUE)])) (st12) ?_
    refine own_go (G := T12.setTop (mkF m 81 #[.val (.int p0), .val (.int (1 : Int32)), .val (.ref s_TRUE), .val (.ref s_FALSE), .val (.int (1 : Int32)), .unset] [])) (fun _ k => Jvm.RoadKit.acmp (g := (mkF m 74 #[.val (.int p0), .val (.int (1 : Int32)), .val (.ref s_TRUE), .val (.ref s_FALSE), .val (.int (1 : Int32)), .unset] [(.ref s_FALSE), (.ref s_TRUE)])) X12 hx rfl rfl rfl (pc0 := 74) (pc' := 81) (same := false) rfl (hb hby at_74) rfl (decide_eq_false fun q => n_TRUE_FALSE (Value.ref.inj q)) (by decide) (by decide) k) ?_
    refine own_go (G := T12.setTop (mkF m 82 #[.val (.int p0), .val (.int (1 : Int32)), .val (.ref s_TRUE), .val (.ref s_FALSE), .val (.int (1 : Int32)), .unset] [(.int (0 : Int32))])) (fun _ k => XS.iconst X12.here hx rfl (hb hby at_81) k) ?_
    refine own_go (G := T12.setTop (mkF m 84 #[.val (.int p0), .val (.int (1 : Int32)), .val (.ref s_TRUE), .val (.ref s_FALSE), .val (.int (1 : Int32)), .val (.int (0 : Int32))] [])) (fun _ k => XS.istore X12.here hx rfl (hb hby at_82) rfl (l' := #[.val (.int p0), .val (.int (1 : Int32)), .val (.ref s_TRUE), .val (.ref s_FALSE), .val (.int (1 : Int32)), .val (.int (0 : Int32))]) rfl k) ?_
    refine own_go (G := T12.setTop (mkF m 86 #[.val (.int p0), .val (.int (1 : Int32)), .val (.ref s_TRUE), .val (.ref s_FALSE), .val (.int (1 : Int32)), .val (.int (0 : Int32))] [(.int (1 : Int32))])) (fun _ k => XS.iload X12.here hx rfl (hb hby at_84) rfl k) ?_
    refine own_go (G := T12.setTop (mkF m 87 #[.val (.int p0), .val (.int (1 : Int32)), .val (.ref s_TRUE), .val (.ref s_FALSE), .val (.int (1 : Int32)), .val (.int (0 : Int32))] [(.int (1 : Int32)), (.int (1 : Int32))])) (fun _ k => XS.iloadN X12.here hx rfl (hb hby at_86) rfl k) ?_
    refine own_go (G := T12.setTop (mkF m 90 #[.val (.int p0), .val (.int (1 : Int32)), .val (.ref s_TRUE), .val (.ref s_FALSE), .val (.int (1 : Int32)), .val (.int (0 : Int32))] [])) (fun _ k => XS.icmpNo X12.here hx rfl (hb hby at_87) rfl (teq (by decide : (1 : Int32) = (1 : Int32))).2 k) ?_
    refine own_go (G := T12.setTop (mkF m 92 #[.val (.int p0), .val (.int (1 : Int32)), .val (.ref s_TRUE), .val (.ref s_FALSE), .val (.int (1 : Int32)), .val (.int (0 : Int32))] [(.int (0 : Int32))])) (fun _ k => XS.iload X12.here hx rfl (hb hby at_90) rfl k) ?_
    refine own_go (G := T12.setTop (mkF m 93 #[.val (.int p0), .val (.int (1 : Int32)), .val (.ref s_TRUE), .val (.ref s_FALSE), .val (.int (1 : Int32)), .val (.int (0 : Int32))] [(.int (1 : Int32)), (.int (0 : Int32))])) (fun _ k => XS.iloadN X12.here hx rfl (hb hby at_92) rfl k) ?_
    refine own_go (G := T12.setTop (mkF m 100 #[.val (.int p0), .val (.int (1 : Int32)), .val (.ref s_TRUE), .val (.ref s_FALSE), .val (.int (1 : Int32)), .val (.int (0 : Int32))] [(.int (0 : Int32))])) (fun _ k => XS.ifYes X12.here hx rfl (pc0 := 93) (pc' := 100) rfl (hb hby at_93) rfl ((if0 _ _).trans (feq (by decide : ¬ ((1 : Int32) = (0 : Int32)))).2) (by decide) (by decide) k) ?_
    refine own_go (G := T12.setTop (mkF m 101 #[.val (.int p0), .val (.int (1 : Int32)), .val (.ref s_TRUE), .val (.ref s_FALSE), .val (.int (1 : Int32)), .val (.int (0 : Int32))] [(.int (0 : Int32)), (.int (0 : Int32))])) (fun _ k => XS.iconst X12.here hx rfl (hb hby at_100) k) ?_
    refine own_go (G := T12.setTop (mkF m 104 #[.val (.int p0), .val (.int (1 : Int32)), .val (.ref s_TRUE), .val (.ref s_FALSE), .val (.int (1 : Int32)), .val (.int (0 : Int32))] [])) (fun _ k => XS.icmpNo X12.here hx rfl (hb hby at_101) rfl (teq (by decide : (0 : Int32) = (0 : Int32))).2 k) ?_
    refine own_go (G := T12.setTop (mkF m 105 #[.val (.int p0), .val (.int (1 : Int32)), .val (.ref s_TRUE), .val (.ref s_FALSE), .val (.int (1 : Int32)), .val (.int (0 : Int32))] [(.ref s_FALSE)])) (fun _ k => XS.aloadN X12.here hx rfl (hb hby at_104) rfl rfl k) ?_
    refine own_go (G := T12.setTop (mkF m 106 #[.val (.int p0), .val (.int (1 : Int32)), .val (.ref s_TRUE), .val (.ref s_FALSE), .val (.int (1 : Int32)), .val (.int (0 : Int32))] [(.ref s_TRUE), (.ref s_FALSE)])) (fun _ k => XS.aloadN X12.here hx rfl (hb hby at_105) rfl rfl k) ?_
    refine own_go (G := T12.setTop (mkF m 109 #[.val (.int p0), .val (.int (1 : Int32)), .val (.ref s_TRUE), .val (.ref s_FALSE), .val (.int (1 : Int32)), .val (.int (0 : Int32))] [])) (fun _ k => Jvm.RoadKit.acmp (g := (mkF m 106 #[.val (.int p0), .val (.int (1 : Int32)), .val (.ref s_TRUE), .val (.ref s_FALSE), .val (.int (1 : Int32)), .val (.int (0 : Int32))] [(.ref s_TRUE), (.ref s_FALSE)])) X12 hx rfl rfl rfl (pc0 := 106) (pc' := 109) (same := false) rfl (hb hby at_106) rfl (decide_eq_false fun q => (Ne.symm n_TRUE_FALSE) (Value.ref.inj q)) (by decide) (by decide) k) ?_
    refine own_go (G := T12.setTop (mkF m 110 #[.val (.int p0), .val (.int (1 : Int32)), .val (.ref s_TRUE), .val (.ref s_FALSE), .val (.int (1 : Int32)), .val (.int (0 : Int32))] [(.int (1 : Int32))])) (fun _ k => XS.iconst X12.here hx rfl (hb hby at_109) k) ?_
    refine own_go (G := T12.setTop (mkF m 114 #[.val (.int p0), .val (.int (1 : Int32)), .val (.ref s_TRUE), .val (.ref s_FALSE), .val (.int (1 : Int32)), .val (.int (0 : Int32))] [(.int (1 : Int32))])) (fun _ k => XS.goto X12.here hx rfl (pc0 := 110) (pc' := 114) rfl (hb hby at_110) (by decide) (by decide) k) ?_
    exact own_ret1 X12 hx Bd.returns (hb hby at_114) Bd.notSynchronized (by decide) (by decide) ⟨rfl, N8⟩
set_option maxRecDepth 65536 in
set_option maxHeartbeats 40000000 in
theorem comes_1 {Post : Tables → Env → Array Value → State → Outcome → State → Prop} (hpost : ∀ tb e args s v u, (limb_1_1.after args s (.returned v) u = true ∧ limb_1_2.after args s (.returned v) u = true ∧ True) → FrameEnd s (.returned v) u (Jvm.fieldLocs frame_1_writes args s ++ Jvm.arrayLocs frame_1_arrays args s ++ Jvm.staticLocs frame_1_statics s) 0 0 → Post tb e args s (.returned v) u) :
    ArmFor flags0 classFile x code maxLocals ret World_1 tables_1 room_1 Calls_1 rest_1 Pre_1 Post := by
  intro l hfl _ _ p e ha hc hk s m args below hf hA hF happ hP
  obtain ⟨hcalls, hrest, hpre⟩ := hP
  obtain ⟨-, -, -, hnamed, -, -, -, hat⟩ := (Spec.applies_iff hf).mp happ
  obtain ⟨hg, hn⟩ := and_e (Cond.before_iff.mp (show (Jvm.Cond.and given_1 narrow_1).before args s = true from hpre))
  obtain ⟨gc, g0⟩ := and_e hg
  obtain ⟨w0, rfl⟩ : ∃ w0 : Value, args = #[w0] := by
    have hs : args.size = 1 := by simpa [Cond.value, given_1] using gc
    obtain ⟨L⟩ := args
    match L, hs with
    | [w0], _ => exact ⟨w0, rfl⟩
  have hw := fun d (hd : d ∈ tables_1) => atoms_spec (ws := Jvm.Cond.code x code maxLocals ret :: tables_1) hat d (List.mem_cons_of_mem _ hd)
  obtain ⟨i0, ei0⟩ := is_v g0
  obtain rfl : w0 = (.int i0) := Option.some.inj ei0
  obtain ⟨m0, r0⟩ := and_e hn
  have E_FALSE := m0
  obtain ⟨m1, r1⟩ := and_e r0
  have E_TRUE := m1
  obtain ⟨m2, r2⟩ := and_e r1
  have E_UNKNOWN := m2
  obtain ⟨m3, r3⟩ := and_e r2
  have O_FALSE := m3
  obtain ⟨m4, r4⟩ := and_e r3
  have O_UNKNOWN := m4
  have O_TRUE := r4
  obtain ⟨s_TRUE, ev_TRUE⟩ := exa_v E_TRUE
  have S_TRUE := Sta.start ev_TRUE (Or.inr ⟨(hw _ (List.mem_of_getElem? (i := 2) rfl)), (hw _ (List.mem_of_getElem? (i := 7) rfl))⟩)
  have Ex_TRUE := Exa.start ev_TRUE E_TRUE
  have Or_TRUE := own_ord O_TRUE ev_TRUE
  obtain ⟨s_FALSE, ev_FALSE⟩ := exa_v E_FALSE
  have S_FALSE := Sta.start ev_FALSE (Or.inr ⟨(hw _ (List.mem_of_getElem? (i := 2) rfl)), (hw _ (List.mem_of_getElem? (i := 5) rfl))⟩)
  have Ex_FALSE := Exa.start ev_FALSE E_FALSE
  have Or_FALSE := own_ord O_FALSE ev_FALSE
  obtain ⟨s_UNKNOWN, ev_UNKNOWN⟩ := exa_v E_UNKNOWN
  have S_UNKNOWN := Sta.start ev_UNKNOWN (Or.inr ⟨(hw _ (List.mem_of_getElem? (i := 2) rfl)), (hw _ (List.mem_of_getElem? (i := 9) rfl))⟩)
  have Ex_UNKNOWN := Exa.start ev_UNKNOWN E_UNKNOWN
  have Or_UNKNOWN := own_ord O_UNKNOWN ev_UNKNOWN
  have n_TRUE_FALSE : s_TRUE ≠ s_FALSE := Or_TRUE.ne Or_FALSE (by decide)
  have n_TRUE_UNKNOWN : s_TRUE ≠ s_UNKNOWN := Or_TRUE.ne Or_UNKNOWN (by decide)
  have n_FALSE_UNKNOWN : s_FALSE ≠ s_UNKNOWN := Or_FALSE.ne Or_UNKNOWN (by decide)
  obtain ⟨n, o, h1, h2, h3, _, L, rfl, ⟨rfl, N⟩, hq⟩ := rm0 l s _ hw tables_1 i0 s_TRUE s_FALSE s_UNKNOWN s.heap s.heap.size (Nat.le_refl _) S_TRUE S_FALSE S_UNKNOWN n_TRUE_FALSE n_TRUE_UNKNOWN n_FALSE_UNKNOWN p e ha hc hk s m _ below hf ((Spec.applies_iff_loose hf).mp happ).1 ⟨rfl, State.Warmed39.refl s, rfl⟩ trivial
  refine ⟨n, _, h1, h2, h3, hpost _ _ _ _ _ _ ⟨Cond.after_iff.mpr rfl, Cond.after_iff.mpr (eq_i res_at (Term.int_eval (1)) rfl), trivial⟩ ⟨hq.1, hq.2.1, (hq.2.2.sift fun y hy => Or.inr (N y hy)).mono (by decide) (by decide)⟩⟩
theorem main_1_1 : Claimed_1_1 := comes_1 fun _ _ _ _ _ _ h hF => ⟨h.1, hF⟩
theorem main_1_2 : Claimed_1_2 := comes_1 fun _ _ _ _ _ _ h hF => ⟨h.2.1, hF⟩
end Jvm.Pilot.@@N@@
namespace Jvm.Pilot.@@N@@
open Jvm Jvm.ClassFile Sem Op Lib Jvm.Free Jvm.Stand Jvm.Pilot.@@N@@.Jvm.D
/-! MADE BY PROGRAM (witnessworld.py) out of the Statement's table words and the real class files: 12 classes; the members and pool entries that the words name. The judged class is class 1, her method 1. -/
namespace start1
open Jvm.ClassFile
def u (s : String) : CpInfo := .utf8 (stringToUtf16 s)
/-- a pool by its gaps: so many unusable entries, then the entry; so many at the end -/
def gap : Nat → List CpInfo → List CpInfo
  | 0, r => r
  | n + 1, r => .unusable :: gap n r
def poolList (es : List (Nat × CpInfo)) (last : Nat) : List CpInfo := es.foldr (fun e r => gap e.1 (e.2 :: r)) (gap last [])
def pool (es : List (Nat × CpInfo)) (last : Nat) : Array CpInfo := ⟨poolList es last⟩
def fileOf (pool : Array CpInfo) (this : Nat) (attrs : Array Attribute := #[]) (ms : Array MethodInfo := #[]) (fl : Nat := 33) (sup : Nat := 0) (ifs : Array Nat := #[]) (fds : Array FieldInfo := #[]) : ClassFile where
  minorVersion := 0
  majorVersion := 65
  constantPool := pool
  accessFlags := fl
  thisClass := this
  superClass := sup
  interfaces := ifs
  fields := fds
  methods := ms
  attributes := attrs
def plain (name : String) (sup : Option ClassId) : Class where
  name := name
  kind := .ordinary
  loader := none
  accessFlags := 33
  super := sup
  interfaces := #[]
  cf := none
  fields := #[]
  methods := #[]
  instanceTypes := #[]
  staticTypes := #[]
  resolved := #[]
  callSites := []
  init := .initialized
  statics := none
  mirror := none

def pool0 : Array CpInfo := pool [(5, u "<init>"), (0, u "()V"), (1, .class_ 10), (1, u "java/lang/Object")] 113

def k0m0 : Method := { name := "<init>", desc := "()V", sig := { parameters := [], returnType := none }, accessFlags := 1, code := none }
/-- java/lang/Object -/
def k0 : Class := { plain "java/lang/Object" none with
  accessFlags := 33
  interfaces := #[]
  cf := some (fileOf pool0 8 #[] #[{ accessFlags := 1, nameIndex := 5, descriptorIndex := 6, attributes := #[] }] 33 0 #[] #[])
  fields := #[]
  methods := #[k0m0]
  instanceTypes := #[]
  staticTypes := #[]
  resolved := Array.replicate 124 none
  statics := none }

def pool1 : Array CpInfo := pool [(2, .class_ 4), (1, u "java/lang/Object"), (0, u "<init>"), (0, u "()V"), (0, .methodref 8 9), (0, .class_ 10), (0, .nameAndType 11 12), (0, u "com/example/halitherses/halitherses/TruthValue"), (0, u "of"), (0, u "(Z)Lcom/example/halitherses/halitherses/TruthValue;"), (0, .fieldref 8 14), (0, .nameAndType 15 16), (0, u "UNKNOWN"), (0, u "Lcom/example/halitherses/halitherses/TruthValue;"), (0, .fieldref 8 18), (0, .nameAndType 19 16), (0, u "TRUE"), (0, .fieldref 8 21), (0, .nameAndType 22 16), (0, u "FALSE"), (0, .class_ 24), (0, u "com/example/halitherses/halitherses/TruthValueOfPinLaw"), (2, u "law"), (0, u "(I)Z")] 3

def k1m0 : Method := { name := "<init>", desc := "()V", sig := { parameters := [], returnType := none }, accessFlags := 1, code := none }
def k1c1 : Code := { maxStack := 2, maxLocals := 6, code := code, exceptionTable := #[], attributes := #[] }
def k1m1 : Method := { name := "law", desc := "(I)Z", sig := { parameters := [.int], returnType := some .boolean }, accessFlags := 9, code := some k1c1 }
/-- com/example/halitherses/halitherses/TruthValueOfPinLaw -/
def k1 : Class := { plain "com/example/halitherses/halitherses/TruthValueOfPinLaw" (some 0) with
  accessFlags := 49
  interfaces := #[]
  cf := some (fileOf pool1 23 #[] #[{ accessFlags := 1, nameIndex := 5, descriptorIndex := 6, attributes := #[] }, { accessFlags := 9, nameIndex := 27, descriptorIndex := 28, attributes := #[] }] 49 2 #[] #[])
  fields := #[]
  methods := #[k1m0, k1m1]
  instanceTypes := #[]
  staticTypes := #[]
  resolved := Array.replicate 32 none
  statics := none }

def pool2 : Array CpInfo := pool [(1, .class_ 2), (0, u "java/lang/constant/Constable"), (0, .class_ 4), (0, u "java/lang/Object")] 6

/-- java/lang/constant/Constable -/
def k2 : Class := { plain "java/lang/constant/Constable" (some 0) with
  accessFlags := 1537
  interfaces := #[]
  cf := some (fileOf pool2 1 #[] #[] 1537 3 #[] #[])
  fields := #[]
  methods := #[]
  instanceTypes := #[]
  staticTypes := #[]
  resolved := Array.replicate 11 none
  statics := none }

def pool3 : Array CpInfo := pool [(1, .class_ 2), (0, u "java/lang/Comparable"), (0, .class_ 4), (0, u "java/lang/Object")] 7

/-- java/lang/Comparable -/
def k3 : Class := { plain "java/lang/Comparable" (some 0) with
  accessFlags := 1537
  interfaces := #[]
  cf := some (fileOf pool3 1 #[] #[] 1537 3 #[] #[])
  fields := #[]
  methods := #[]
  instanceTypes := #[]
  staticTypes := #[]
  resolved := Array.replicate 12 none
  statics := none }

def pool4 : Array CpInfo := pool [(1, .class_ 2), (0, u "java/io/Serializable"), (0, .class_ 4), (0, u "java/lang/Object")] 2

/-- java/io/Serializable -/
def k4 : Class := { plain "java/io/Serializable" (some 0) with
  accessFlags := 1537
  interfaces := #[]
  cf := some (fileOf pool4 1 #[] #[] 1537 3 #[] #[])
  fields := #[]
  methods := #[]
  instanceTypes := #[]
  staticTypes := #[]
  resolved := Array.replicate 7 none
  statics := none }

def pool5 : Array CpInfo := pool [(2, .class_ 4), (1, u "java/lang/Enum"), (0, u "name"), (0, u "Ljava/lang/String;"), (2, u "ordinal"), (0, u "I"), (1, .class_ 14), (1, u "java/lang/Object"), (4, u "hash"), (86, .class_ 108), (1, u "java/lang/Enum$EnumDesc"), (2, .class_ 112), (0, u "java/lang/constant/Constable"), (0, .class_ 114), (0, u "java/lang/Comparable"), (0, .class_ 116), (0, u "java/io/Serializable")] 87

/-- java/lang/Enum -/
def k5 : Class := { plain "java/lang/Enum" (some 0) with
  accessFlags := 1057
  interfaces := #[2, 3, 4]
  cf := some (fileOf pool5 2 #[.nestMembers #[106]] #[] 1057 12 #[111, 113, 115] #[{ accessFlags := 18, nameIndex := 5, descriptorIndex := 6, attributes := #[] }, { accessFlags := 18, nameIndex := 9, descriptorIndex := 10, attributes := #[] }, { accessFlags := 2, nameIndex := 19, descriptorIndex := 10, attributes := #[] }])
  fields := #[{ name := "name", type := (.object "java/lang/String"), accessFlags := 18, slot := 0, constantValue := 0 }, { name := "ordinal", type := .int, accessFlags := 18, slot := 1, constantValue := 0 }, { name := "hash", type := .int, accessFlags := 2, slot := 2, constantValue := 0 }]
  methods := #[]
  instanceTypes := #[(.object "java/lang/String"), .int, .int]
  staticTypes := #[]
  resolved := Array.replicate 204 none
  statics := none }

def pool6 : Array CpInfo := pool [(1, .class_ 2), (0, u "com/example/halitherses/halitherses/TruthValue"), (0, .fieldref 1 4), (0, .nameAndType 5 6), (0, u "TRUE"), (0, u "Lcom/example/halitherses/halitherses/TruthValue;"), (0, .fieldref 1 8), (0, .nameAndType 9 6), (0, u "FALSE"), (2, u "UNKNOWN"), (2, u "$VALUES"), (0, u "[Lcom/example/halitherses/halitherses/TruthValue;"), (6, .class_ 25), (1, u "java/lang/Enum"), (21, u "of"), (0, u "(Z)Lcom/example/halitherses/halitherses/TruthValue;")] 5

def k6c0 : Code := { maxStack := 1, maxLocals := 1, code := prog_9_method_4_code, exceptionTable := #[], attributes := #[] }
def k6m0 : Method := { name := "of", desc := "(Z)Lcom/example/halitherses/halitherses/TruthValue;", sig := { parameters := [.boolean], returnType := some (.object "com/example/halitherses/halitherses/TruthValue") }, accessFlags := 9, code := some k6c0 }
/-- com/example/halitherses/halitherses/TruthValue -/
def k6 : Class := { plain "com/example/halitherses/halitherses/TruthValue" (some 5) with
  accessFlags := 16433
  interfaces := #[]
  cf := some (fileOf pool6 1 #[] #[{ accessFlags := 9, nameIndex := 47, descriptorIndex := 48, attributes := #[] }] 16433 23 #[] #[{ accessFlags := 16409, nameIndex := 5, descriptorIndex := 6, attributes := #[] }, { accessFlags := 16409, nameIndex := 9, descriptorIndex := 6, attributes := #[] }, { accessFlags := 16409, nameIndex := 12, descriptorIndex := 6, attributes := #[] }, { accessFlags := 4122, nameIndex := 15, descriptorIndex := 16, attributes := #[] }])
  fields := #[{ name := "TRUE", type := (.object "com/example/halitherses/halitherses/TruthValue"), accessFlags := 16409, slot := 0, constantValue := 0 }, { name := "FALSE", type := (.object "com/example/halitherses/halitherses/TruthValue"), accessFlags := 16409, slot := 1, constantValue := 0 }, { name := "UNKNOWN", type := (.object "com/example/halitherses/halitherses/TruthValue"), accessFlags := 16409, slot := 2, constantValue := 0 }, { name := "$VALUES", type := (.array (.object "com/example/halitherses/halitherses/TruthValue")), accessFlags := 4122, slot := 3, constantValue := 0 }]
  methods := #[k6m0]
  instanceTypes := #[(.object "java/lang/String"), .int, .int]
  staticTypes := #[(.object "com/example/halitherses/halitherses/TruthValue"), (.object "com/example/halitherses/halitherses/TruthValue"), (.object "com/example/halitherses/halitherses/TruthValue"), (.array (.object "com/example/halitherses/halitherses/TruthValue"))]
  resolved := Array.replicate 54 none
  statics := some 0 }

def pool7 : Array CpInfo := pool [(1, u "java/lang/Cloneable"), (0, .class_ 1), (0, u "java/lang/Object"), (0, .class_ 3)] 3

/-- java/lang/Cloneable -/
def k7 : Class := { plain "java/lang/Cloneable" (some 0) with
  accessFlags := 1537
  interfaces := #[]
  cf := some (fileOf pool7 2 #[] #[] 1537 4 #[] #[])
  fields := #[]
  methods := #[]
  instanceTypes := #[]
  staticTypes := #[]
  resolved := Array.replicate 8 none
  statics := none }

/-- the primitive byte -/
def k8 : Class := { plain "byte" none with kind := .primitive 'B', accessFlags := 0x411 }
/-- [B -/
def k9 : Class := { plain "[B" (some 0) with kind := .array 8 .byte, interfaces := #[7, 4], accessFlags := 1041 }

/-- the primitive int -/
def k10 : Class := { plain "int" none with kind := .primitive 'I', accessFlags := 0x411 }
/-- [I -/
def k11 : Class := { plain "[I" (some 0) with kind := .array 10 .int, interfaces := #[7, 4], accessFlags := 1041 }

def heap : Heap := #[{ cls := 6, slots := #[.ref 2, .ref 1, .ref 3, .null], vm := .statics 6 },
  { cls := 6, slots := #[.null, .int 1, .int 0], vm := .none },
  { cls := 6, slots := #[.null, .int 0, .int 0], vm := .none },
  { cls := 6, slots := #[.null, .int 2, .int 0], vm := .none }]
def classes : Array Class := #[k0, k1, k2, k3, k4, k5, k6, k7, k8, k9, k10, k11]
def interned : List (Array UInt16 × Addr) := []
def slotsUsed : Nat := 13
def theMethod : MethodId := ⟨1, 1⟩
def args0 : Array Value := #[.int 5]
def aboutOver (below : List Frame) : State where
  vm := { classes := classes, interned := interned.toArray }
  heap := heap
  slotsUsed := slotsUsed
  threads := #[{ frames := .invoking theMethod args0 :: below }]
def below0 : List Frame := [.native { method := ⟨0, 0⟩, args := #[] }]
def about1 : State := aboutOver below0
def p0 : Program := .bare "" "" ""
def e0 : Env := launch0.env 0 0 0
theorem w_frames : about1.frames = Frame.invoking theMethod args0 :: below0 := rfl
set_option maxRecDepth 65536 in
theorem w_args : argsFit about1.vm theMethod args0 = true := by decide +kernel
set_option maxRecDepth 65536 in
theorem w_heap : heapFits about1 = true := by decide +kernel
set_option maxRecDepth 65536 in
theorem w_runnable : about1.curStatus? = some .runnable := by decide +kernel
set_option maxRecDepth 65536 in
theorem w_alone : about1.alone = true := by decide +kernel
set_option maxRecDepth 65536 in
theorem w_named : about1.methodNamed? x = some theMethod := by decide +kernel
set_option maxRecDepth 65536 in
theorem w_hears : about1.hears theMethod below0 = true := by decide +kernel
set_option maxRecDepth 65536 in
theorem w_ripe : about1.ripe theMethod args0 below0 = true := by decide +kernel
theorem w_running : about1.status = .running := rfl
set_option maxRecDepth 65536 in
theorem w_room : about1.hasRoom e0.platform room_1 = true :=
  launch0.hasRoom_least _ room_1 (by decide +kernel) (by decide +kernel) (by decide +kernel) (by decide +kernel) (by decide +kernel) (by decide +kernel)
theorem allAtoms_all (ts : List Jvm.Cond) (a : Array Jvm.Value) (st : Jvm.State) : (allAtoms ts).before a st = ts.all (fun c => c.before a st) := by
  induction ts with
  | nil => rfl
  | cons c t ih =>
    show (Jvm.Cond.and c (allAtoms t)).before a st = _
    rw [Jvm.Cond.before_and, ih, List.all_cons]
def words1 : List Jvm.Cond := Jvm.Cond.code x code maxLocals ret :: tables_1
/-- a 'code' word, met by the world's own term for the bytes: nothing is compared byte by byte -/
theorem code_word {y : MethodName} {bytes : ByteArray} {mx : Nat} {rt : Option FieldType} {a : Array Value} {s : State} {m : MethodId} {meth : Method} {c : Code} (h1 : s.methodNamed? y = some m) (h2 : s.vm.method? m = some meth) (h3 : meth.code = some c) (h4 : c.code = bytes)
    (h5 : (c.maxLocals == mx && c.exceptionTable.isEmpty && decide (c.maxStack ≤ mostOperands) && decide (meth.sig.returnType = rt) && !meth.locks && decide (parseMethodDescriptor y.desc = some meth.sig)) = true) : (Jvm.Cond.code y bytes mx rt).before a s = true := by
  simp only [Bool.and_eq_true, beq_iff_eq, Bool.not_eq_true', decide_eq_true_eq] at h5
  obtain ⟨⟨⟨⟨⟨g1, g2⟩, g3⟩, g4⟩, g5⟩, g6⟩ := h5
  simp [Cond.before, Cond.holds, Cond.value, h1, h2, h3, h4, g1, g2, g3, g4, g5, g6]
def isCode : Jvm.Cond → Bool
  | .code _ _ _ _ => true
  | _ => false
theorem all_split {L : List Jvm.Cond} {P : Jvm.Cond → Bool} (h1 : L.all (fun c => isCode c || P c) = true) (h2 : ∀ c ∈ L.filter isCode, P c = true) : L.all P = true := by
  refine List.all_eq_true.mpr fun c hc => ?_
  have h := List.all_eq_true.mp h1 c hc
  rcases Bool.eq_false_or_eq_true (isCode c) with hi | hi
  · exact h2 c (List.mem_filter.mpr ⟨hc, hi⟩)
  · simpa [hi] using h
set_option maxRecDepth 65536 in
theorem w_c0 : (Jvm.Cond.code x code maxLocals ret).before args0 about1 = true := code_word (m := ⟨1, 1⟩) (meth := k1m1) (c := k1c1) (by decide +kernel) rfl rfl rfl (by decide +kernel)
set_option maxRecDepth 65536 in
theorem w_c1 : (Jvm.Cond.code ({ cls := "com/example/halitherses/halitherses/TruthValue", name := "of", desc := "(Z)Lcom/example/halitherses/halitherses/TruthValue;" } : Jvm.MethodName) prog_9_method_4_code (1 : Nat) (Option.some (Jvm.ClassFile.FieldType.object "com/example/halitherses/halitherses/TruthValue"))).before args0 about1 = true := code_word (m := ⟨6, 0⟩) (meth := k6m0) (c := k6c0) (by decide +kernel) rfl rfl rfl (by decide +kernel)
def codes1 : List Jvm.Cond := [Jvm.Cond.code x code maxLocals ret, Jvm.Cond.code ({ cls := "com/example/halitherses/halitherses/TruthValue", name := "of", desc := "(Z)Lcom/example/halitherses/halitherses/TruthValue;" } : Jvm.MethodName) prog_9_method_4_code (1 : Nat) (Option.some (Jvm.ClassFile.FieldType.object "com/example/halitherses/halitherses/TruthValue"))]
set_option maxRecDepth 65536 in
theorem codes_eq : words1.filter isCode = codes1 := rfl
theorem w_codes : ∀ c ∈ words1.filter isCode, c.before args0 about1 = true := by
  rw [codes_eq]
  intro c hc
  simp only [codes1, List.mem_cons, List.not_mem_nil, or_false] at hc
  rcases hc with rfl | rfl
  · exact w_c0
  · exact w_c1
set_option maxRecDepth 65536 in
theorem w_t1 : words1.all (fun c => isCode c || c.before args0 about1) = true := by decide +kernel
theorem w_tables : (allAtoms (Jvm.Cond.code x code maxLocals ret :: tables_1)).before args0 about1 = true := by
  rw [allAtoms_all]
  show words1.all (fun c => c.before args0 about1) = true
  refine all_split ?_ w_codes
  rw [w_t1]
set_option maxRecDepth 65536 in
theorem w_case : (Jvm.Cond.and given_1 narrow_1).before args0 about1 = true := by decide +kernel
theorem w_applies : (headSpec (Jvm.Cond.code x code maxLocals ret :: tables_1) room_1).applies x e0.platform about1 = true :=
  (Spec.applies_iff w_frames).mpr ⟨w_running, w_runnable, w_alone, w_named, w_hears, w_ripe, w_room, w_tables⟩
theorem atStart : AtStart classFile x code maxLocals ret World_1 tables_1 room_1 Calls_1 rest_1 Pre_1 launch0 p0 e0 about1 theMethod args0 below0 :=
  ⟨lists_1, trivial, launch0.admits_env _ _ _, launch0.least_env, fairChoices_fair.cas, fairChoices_fair.clock, w_frames, w_args, w_heap, w_applies, trivial, trivial, w_case⟩
end start1
theorem witness_1 : WitnessClaimed_1 := ⟨start1.p0, start1.e0, start1.about1, start1.theMethod, start1.args0, start1.below0, start1.atStart⟩
end Jvm.Pilot.@@N@@
