import JvmDerived
import JvmDerived.Pilot.@@N@@Statement
import JvmDerived.Pilot.@@N@@Code
set_option linter.unusedVariables false
set_option linter.unusedSimpArgs false
namespace Jvm.Pilot.@@N@@
open Jvm Jvm.ClassFile Sem Op Lib Jvm.Free Jvm.Stand Jvm.LawKit Jvm.RoadKit Bundle Jvm.Pilot.@@N@@.Jvm.D
/-- the run from F ends, with an outcome and a state that Φ takes -/
def own_Goes (p : Program) (e : Env) (below : List Frame) (Φ : Outcome → State → Prop) (F : State) : Prop :=
  ∃ s₂ o, Steps p.tables e below F s₂ ∧ s₂.status = .running ∧ Ended s₂ below o ∧ Φ o s₂
theorem own_go {p : Program} {e : Env} {below : List Frame} {Φ : Outcome → State → Prop} {F G : State}
    (k : ∀ t, Steps p.tables e below G t → Steps p.tables e below F t) (h : own_Goes p e below Φ G) : own_Goes p e below Φ F := by
  obtain ⟨s₂, o, h1, h2⟩ := h
  exact ⟨s₂, o, k _ h1, h2⟩
/-- what a contract says of the end -/
def own_End (s : State) (Q : Option Value → Heap → List Loc → Prop) (k n : Nat) (o : Outcome) (U' : State) : Prop :=
  ∃ v L, o = .returned v ∧ Q v U'.heap L ∧ FrameEnd s o U' L k n
/-- a value is returned, the heap is as it was -/
def own_Same (w : Value) (h0 : Heap) (n0 : Nat) (v : Option Value) (h : Heap) (L : List Loc) : Prop := v = some w ∧ Fr n0 L ∧ h = h0
/-- nothing is returned, the heap is as it was -/
def own_SameV (h0 : Heap) (n0 : Nat) (v : Option Value) (h : Heap) (L : List Loc) : Prop := v = none ∧ Fr n0 L ∧ h = h0
section Own
variable {p : Program} {l : Launch} {e : Env} {R : Room} {s : State} {m : MethodId} {args : Array Value} {below : List Frame} {meth : Method} {c : Code} {T : State} {locs : List Loc} {cells slots : Nat}
theorem own_ret (X : Stand p l e R s m args below meth c T locs cells slots) (hx : p.tables.exec = Jvm.exec) {pc : Nat} {Ls : Array Slot} {w : Value} {t : FieldType} {i : Instr} {rest : List Value} (hret : meth.sig.returnType = some t) (hn : narrow t w = w)
    (hi : (i = .ireturn ∧ (t = .int ∨ t = .boolean ∨ t = .byte ∨ t = .char ∨ t = .short) ∧ ∃ z, w = .int z) ∨ (i = .lreturn ∧ t = .long ∧ ∃ z, w = .long z) ∨ (i = .dreturn ∧ t = .double ∧ ∃ z, w = .double z) ∨ (i = .freturn ∧ t = .float ∧ ∃ z, w = .float z) ∨ (i = .areturn ∧ t.isReference = true ∧ w.isRef = true))
    (hd : decode c.code pc = .ok (i, 1)) (hlk : meth.locks = false) {Q : Option Value → Heap → List Loc → Prop} {k n : Nat} (h1 : cells ≤ k) (h2 : slots ≤ n) (hQ : Q (some w) T.heap locs) :
    own_Goes p e below (own_End s Q k n) (T.setTop (mkF m pc Ls (w :: rest))) := by
  obtain ⟨fs, hr, hrun, hended, hW, hsame⟩ := X.leave (v := some w) (fun h => by rw [hret] at h; cases h) hlk
  exact ⟨_, _, retOut X hx hret hn hi hd hr, hrun, hended, _, _, rfl, hQ, ⟨_, rfl⟩, hW, hsame.mono h1 h2⟩
theorem own_retI (X : Stand p l e R s m args below meth c T locs cells slots) (hx : p.tables.exec = Jvm.exec) {pc : Nat} {Ls : Array Slot} {z : Int32} {rest : List Value} (hret : meth.sig.returnType = some .int)
    (hd : decode c.code pc = .ok (.ireturn, 1)) (hlk : meth.locks = false) {Q : Option Value → Heap → List Loc → Prop} {k n : Nat} (h1 : cells ≤ k) (h2 : slots ≤ n) (hQ : Q (some (.int z)) T.heap locs) :
    own_Goes p e below (own_End s Q k n) (T.setTop (mkF m pc Ls (.int z :: rest))) := own_ret X hx hret rfl (Or.inl ⟨rfl, Or.inl rfl, z, rfl⟩) hd hlk h1 h2 hQ
theorem own_retJ (X : Stand p l e R s m args below meth c T locs cells slots) (hx : p.tables.exec = Jvm.exec) {pc : Nat} {Ls : Array Slot} {z : Int64} {rest : List Value} (hret : meth.sig.returnType = some .long)
    (hd : decode c.code pc = .ok (.lreturn, 1)) (hlk : meth.locks = false) {Q : Option Value → Heap → List Loc → Prop} {k n : Nat} (h1 : cells ≤ k) (h2 : slots ≤ n) (hQ : Q (some (.long z)) T.heap locs) :
    own_Goes p e below (own_End s Q k n) (T.setTop (mkF m pc Ls (.long z :: rest))) := own_ret X hx hret rfl (Or.inr (Or.inl ⟨rfl, rfl, z, rfl⟩)) hd hlk h1 h2 hQ
theorem own_retB (X : Stand p l e R s m args below meth c T locs cells slots) (hx : p.tables.exec = Jvm.exec) {pc : Nat} {Ls : Array Slot} {z : Int32} {rest : List Value} (hret : meth.sig.returnType = some .boolean) (hz : z = 0 ∨ z = 1)
    (hd : decode c.code pc = .ok (.ireturn, 1)) (hlk : meth.locks = false) {Q : Option Value → Heap → List Loc → Prop} {k n : Nat} (h1 : cells ≤ k) (h2 : slots ≤ n) (hQ : Q (some (.int z)) T.heap locs) :
    own_Goes p e below (own_End s Q k n) (T.setTop (mkF m pc Ls (.int z :: rest))) := own_ret X hx hret (by rcases hz with rfl | rfl <;> rfl) (Or.inl ⟨rfl, Or.inr (Or.inl rfl), z, rfl⟩) hd hlk h1 h2 hQ
theorem own_ret1 (X : Stand p l e R s m args below meth c T locs cells slots) (hx : p.tables.exec = Jvm.exec) {pc : Nat} {Ls : Array Slot} {rest : List Value} (hret : meth.sig.returnType = some .boolean)
    (hd : decode c.code pc = .ok (.ireturn, 1)) (hlk : meth.locks = false) {Q : Option Value → Heap → List Loc → Prop} {k n : Nat} (h1 : cells ≤ k) (h2 : slots ≤ n) (hQ : Q (some (.int 1)) T.heap locs) :
    own_Goes p e below (own_End s Q k n) (T.setTop (mkF m pc Ls (.int 1 :: rest))) := own_retB X hx hret (Or.inr rfl) hd hlk h1 h2 hQ
theorem own_ret0 (X : Stand p l e R s m args below meth c T locs cells slots) (hx : p.tables.exec = Jvm.exec) {pc : Nat} {Ls : Array Slot} {rest : List Value} (hret : meth.sig.returnType = some .boolean)
    (hd : decode c.code pc = .ok (.ireturn, 1)) (hlk : meth.locks = false) {Q : Option Value → Heap → List Loc → Prop} {k n : Nat} (h1 : cells ≤ k) (h2 : slots ≤ n) (hQ : Q (some (.int 0)) T.heap locs) :
    own_Goes p e below (own_End s Q k n) (T.setTop (mkF m pc Ls (.int 0 :: rest))) := own_retB X hx hret (Or.inl rfl) hd hlk h1 h2 hQ
theorem own_retN (X : Stand p l e R s m args below meth c T locs cells slots) (hx : p.tables.exec = Jvm.exec) {pc : Nat} {Ls : Array Slot} {z : Int32} {t : FieldType} {rest : List Value} (hret : meth.sig.returnType = some t) (ht : t = .boolean ∨ t = .byte ∨ t = .char ∨ t = .short)
    (hd : decode c.code pc = .ok (.ireturn, 1)) (hlk : meth.locks = false) {Q : Option Value → Heap → List Loc → Prop} {k n : Nat} (h1 : cells ≤ k) (h2 : slots ≤ n) (hQ : Q (some (.int (nar t z))) T.heap locs) :
    own_Goes p e below (own_End s Q k n) (T.setTop (mkF m pc Ls (.int z :: rest))) := by
  obtain ⟨fs, hr, hrun, hended, hW, hsame⟩ := X.leave (v := some (.int (nar t z))) (fun h => by rw [hret] at h; cases h) hlk
  exact ⟨_, _, retN X hx hret ht hd hr, hrun, hended, _, _, rfl, hQ, ⟨_, rfl⟩, hW, hsame.mono h1 h2⟩
theorem own_retA (X : Stand p l e R s m args below meth c T locs cells slots) (hx : p.tables.exec = Jvm.exec) {pc : Nat} {Ls : Array Slot} {w : Value} {t : FieldType} {rest : List Value} (hret : meth.sig.returnType = some t) (ht : t.isReference = true) (hw : w.isRef = true)
    (hd : decode c.code pc = .ok (.areturn, 1)) (hlk : meth.locks = false) {Q : Option Value → Heap → List Loc → Prop} {k n : Nat} (h1 : cells ≤ k) (h2 : slots ≤ n) (hQ : Q (some w) T.heap locs) :
    own_Goes p e below (own_End s Q k n) (T.setTop (mkF m pc Ls (w :: rest))) := own_ret X hx hret (by cases t <;> first | rfl | cases ht) (Or.inr (Or.inr (Or.inr (Or.inr ⟨rfl, ht, hw⟩)))) hd hlk h1 h2 hQ
theorem own_retV (X : Stand p l e R s m args below meth c T locs cells slots) (hx : p.tables.exec = Jvm.exec) {pc : Nat} {Ls : Array Slot} (hret : meth.sig.returnType = none)
    (hd : decode c.code pc = .ok (.return_, 1)) (hlk : meth.locks = false) {Q : Option Value → Heap → List Loc → Prop} {k n : Nat} (h1 : cells ≤ k) (h2 : slots ≤ n) (hQ : Q none T.heap locs) :
    own_Goes p e below (own_End s Q k n) (T.setTop (mkF m pc Ls [])) := by
  obtain ⟨fs, hr, hrun, hended, hW, hsame⟩ := X.leave (v := none) (fun _ => rfl) hlk
  exact ⟨_, _, X.returnOut hx hret hd hr, hrun, hended, _, _, rfl, hQ, ⟨_, rfl⟩, hW, hsame.mono h1 h2⟩
end Own
/-- the law says true; nothing old is written -/
def own_True (n0 : Nat) (v : Option Value) (h : Heap) (L : List Loc) : Prop := v = some (.int 1) ∧ Fr n0 L
theorem own_i (x y : Int32) : (x = y ↔ x.toInt = y.toInt) ∧ (x < y ↔ x.toInt < y.toInt) ∧ (x ≤ y ↔ x.toInt ≤ y.toInt) := ⟨Int32.toInt_inj.symm, Int32.lt_iff_toInt_lt, Int32.le_iff_toInt_le⟩
theorem own_ie (x y : Int32) : x = y ↔ x.toInt = y.toInt := Int32.toInt_inj.symm
theorem own_le (x y : Int64) : x = y ↔ x.toInt = y.toInt := Int64.toInt_inj.symm
/-- an array of which the kind and the length alone are told -/
def own_A (Z : State) (h : Heap) (a : Addr) (ty : FieldType) (n : Int32) : Prop := ∃ c : Cell, Arr Z h a c ty ∧ c.slots.size = n.toNatClampNeg ∧ ¬ n < 0
section OwnA
variable {Z : State} {h h' : Heap} {a b : Addr} {ty : FieldType} {n : Int32} {sl : Nat} {v : Value} {ws : List Addr}
theorem own_A.lt (F : own_A Z h a ty n) : a < h.size := by obtain ⟨c, A, -⟩ := F; exact A.lt
theorem own_A.ext (F : own_A Z h a ty n) (E : Ext h h') : own_A Z h' a ty n := by obtain ⟨c, A, r⟩ := F; exact ⟨c, A.ext E, r⟩
theorem own_A.other (F : own_A Z h b ty n) (W : Wr h h' a sl v) (q : b ≠ a) : own_A Z h' b ty n := by obtain ⟨c, A, r⟩ := F; exact ⟨c, A.other W q, r⟩
theorem own_A.same (F : own_A Z h a ty n) (W : Wr h h' a sl v) : own_A Z h' a ty n := by
  obtain ⟨c, A, r1, r2⟩ := F
  exact ⟨_, A.same W, by rw [← r1]; simp [Cell.setSlot], r2⟩
theorem own_A.keep (F : own_A Z h a ty n) (K : Keep h h' ws) (q : a ∉ ws) : own_A Z h' a ty n := by obtain ⟨c, A, r⟩ := F; exact ⟨c, ⟨K.2.1 a c A.1 q, A.2⟩, r⟩
theorem own_A.of {k : ClassId} {vs : List Value} {d : Value} (F : Arv Z h a k ty n vs d) : own_A Z h a ty n := by obtain ⟨c, A, -, r1, r2, -⟩ := F; exact ⟨c, A, r1, r2⟩
end OwnA
theorem own_staKeep {Z : State} {h h' : Heap} {C n d : String} {v : Value} (F : Sta Z h C n d v) (K : Keep h h' []) : Sta Z h' C n d v := by
  obtain ⟨cf, i, k, f, st, cell, h1, h2, h3, h4, h5, r⟩ := F
  exact ⟨cf, i, k, f, st, cell, h1, h2, h3, h4, K.2.1 _ _ h5 nin0, r⟩
theorem d1_0 : decode prog_25_method_34_code 0 = .ok (.iload_n 0, 1) := by decide +kernel
theorem d1_1 : decode prog_25_method_34_code 1 = .ok (.bipush 48, 2) := by decide +kernel
theorem d1_3 : decode prog_25_method_34_code 3 = .ok (.if_icmp .lt 13, 3) := by decide +kernel
theorem d1_6 : decode prog_25_method_34_code 6 = .ok (.iload_n 0, 1) := by decide +kernel
theorem d1_7 : decode prog_25_method_34_code 7 = .ok (.bipush 57, 2) := by decide +kernel
theorem d1_9 : decode prog_25_method_34_code 9 = .ok (.if_icmp .gt 7, 3) := by decide +kernel
theorem d1_12 : decode prog_25_method_34_code 12 = .ok (.iconst 1, 1) := by decide +kernel
theorem d1_13 : decode prog_25_method_34_code 13 = .ok (.goto 4, 3) := by decide +kernel
theorem d1_16 : decode prog_25_method_34_code 16 = .ok (.iconst 0, 1) := by decide +kernel
theorem d1_17 : decode prog_25_method_34_code 17 = .ok (.ireturn, 1) := by decide +kernel
theorem pn1 : plainName "com/example/lotear/lotear/cnab/Record" = true := by first | (simp [plainName, overriddenIn]; done) | decide +kernel
theorem ef_rm1 (m : MethodId) (p0 : Int32) : entryFrame m #[(.int p0)] 1 = mkF m 0 #[.val (.int p0)] [] := by first | (simp [entryFrame, mkF, argsToLocals, Value.category]; done) | rfl
def F1 (p0 : Int32) : Int32 := (if p0 < (48 : Int32) then (0 : Int32) else (if (57 : Int32) < p0 then (0 : Int32) else (1 : Int32)))
set_option maxRecDepth 65536 in
set_option maxHeartbeats 40000000 in
theorem rm1 (l : Launch) (Z : State) (a0 : Array Value) (hw : ∀ d ∈ tables_1, d.before a0 Z = true) (ws : List Jvm.Cond) (p0 : Int32) (h0 : Heap) (n0 : Nat) (Z0 : n0 ≤ h0.size) :
    MetFree l (⟨"com/example/lotear/lotear/cnab/Record", "isDigit", "(I)Z"⟩ : MethodName) (head1 (Jvm.Cond.code (⟨"com/example/lotear/lotear/cnab/Record", "isDigit", "(I)Z"⟩ : MethodName) prog_25_method_34_code 1 (some .boolean) :: ws) ({ frames := 0, cells := 0, slots := 0, locals := 0 } : Room)) (fun a U => a = #[(.int p0)] ∧ Z.Warmed39 U.vm ∧ U.heap = h0) (fun _ _ _ _ _ => True) (fun _ U o U' => ∃ v L, o = .returned v ∧ (own_Same (.int (F1 p0)) h0 n0) v U'.heap L ∧ FrameEnd U o U' L 0 0) := by
  refine MetFree.of_bodySF (plainFor_of_name pn1) hisR ?_
  intro p e s m args below meth c s₁ Bd hml0 hP hK
  obtain ⟨rfl, hZ, hh⟩ := hP
  have hx := Bd.exec
  have hby := Bd.bytes
  have hml : c.maxLocals = 1 := hml0
  have hown : s.vm.findClass "com/example/lotear/lotear/cnab/Record" = some m.cls := findClass_of_methodNamed Bd.named
  have hnm := (name_of_methodNamed Bd.named Bd.method).1
  have X0 : Stand p l e ({ frames := 0, cells := 0, slots := 0, locals := 0 } : Room) s m #[(.int p0)] below meth c s₁ [] 0 0 := Stand.of_body Bd
  have e0 : s₁.heap = h0 := by rw [← hh, Bd.state]; rfl
  have N0 := Fr.nil n0
  show own_Goes p e below (own_End s (own_Same (.int (F1 p0)) h0 n0) 0 0) _
  refine own_go (G := s₁.setTop (mkF m 0 #[.val (.int p0)] [])) (fun t k => castTop (ef_rm1 m p0) k) ?_
  refine own_go (G := s₁.setTop (mkF m 1 #[.val (.int p0)] [(.int p0)])) (fun _ k => XS.iloadN X0.here hx rfl (hb hby d1_0) rfl k) ?_
  refine own_go (G := s₁.setTop (mkF m 3 #[.val (.int p0)] [(.int (48 : Int32)), (.int p0)])) (fun _ k => XS.bipush X0.here hx rfl (hb hby d1_1) k) ?_
  show own_Goes p e below (own_End s (own_Same (.int (if p0 < (48 : Int32) then (0 : Int32) else (if (57 : Int32) < p0 then (0 : Int32) else (1 : Int32)))) h0 n0) 0 0) _
  by_cases hc3 : p0 < (48 : Int32)
  · rw [if_pos hc3]
    refine own_go (G := s₁.setTop (mkF m 16 #[.val (.int p0)] [])) (fun _ k => XS.icmpYes X0.here hx rfl (pc0 := 3) (pc' := 16) rfl (hb hby d1_3) rfl (tlt hc3).1 (by decide) (by decide) k) ?_
    refine own_go (G := s₁.setTop (mkF m 17 #[.val (.int p0)] [(.int (0 : Int32))])) (fun _ k => XS.iconst X0.here hx rfl (hb hby d1_16) k) ?_
    exact own_ret0 X0 hx Bd.returns (hb hby d1_17) Bd.notSynchronized (by decide) (by decide) ⟨rfl, N0, e0⟩
  · rw [if_neg hc3]
    refine own_go (G := s₁.setTop (mkF m 6 #[.val (.int p0)] [])) (fun _ k => XS.icmpNo X0.here hx rfl (hb hby d1_3) rfl (flt hc3).1 k) ?_
    refine own_go (G := s₁.setTop (mkF m 7 #[.val (.int p0)] [(.int p0)])) (fun _ k => XS.iloadN X0.here hx rfl (hb hby d1_6) rfl k) ?_
    refine own_go (G := s₁.setTop (mkF m 9 #[.val (.int p0)] [(.int (57 : Int32)), (.int p0)])) (fun _ k => XS.bipush X0.here hx rfl (hb hby d1_7) k) ?_
    show own_Goes p e below (own_End s (own_Same (.int (if (57 : Int32) < p0 then (0 : Int32) else (1 : Int32))) h0 n0) 0 0) _
    by_cases hc9 : (57 : Int32) < p0
    · rw [if_pos hc9]
      refine own_go (G := s₁.setTop (mkF m 16 #[.val (.int p0)] [])) (fun _ k => XS.icmpYes X0.here hx rfl (pc0 := 9) (pc' := 16) rfl (hb hby d1_9) rfl (tlt hc9).2.2.1 (by decide) (by decide) k) ?_
      refine own_go (G := s₁.setTop (mkF m 17 #[.val (.int p0)] [(.int (0 : Int32))])) (fun _ k => XS.iconst X0.here hx rfl (hb hby d1_16) k) ?_
      exact own_ret0 X0 hx Bd.returns (hb hby d1_17) Bd.notSynchronized (by decide) (by decide) ⟨rfl, N0, e0⟩
    · rw [if_neg hc9]
      refine own_go (G := s₁.setTop (mkF m 12 #[.val (.int p0)] [])) (fun _ k => XS.icmpNo X0.here hx rfl (hb hby d1_9) rfl (flt hc9).2.2.1 k) ?_
      refine own_go (G := s₁.setTop (mkF m 13 #[.val (.int p0)] [(.int (1 : Int32))])) (fun _ k => XS.iconst X0.here hx rfl (hb hby d1_12) k) ?_
      refine own_go (G := s₁.setTop (mkF m 17 #[.val (.int p0)] [(.int (1 : Int32))])) (fun _ k => XS.goto X0.here hx rfl (pc0 := 13) (pc' := 17) rfl (hb hby d1_13) (by decide) (by decide) k) ?_
      exact own_ret1 X0 hx Bd.returns (hb hby d1_17) Bd.notSynchronized (by decide) (by decide) ⟨rfl, N0, e0⟩

theorem own_prod {d : Int} (h1 : -2147483800 ≤ d) (h2 : d ≤ 2147483800) : -5000000000000000000 ≤ d * (d - 9) ∧ d * (d - 9) ≤ 5000000000000000000 ∧ (d * (d - 9) ≤ 0 ↔ 0 ≤ d ∧ d ≤ 9) := by
  have m := mc (a := d) (b := d - 9) (l1 := -2147483800) (h1 := 2147483800) (l2 := -2147483809) (h2 := 2147483809) h1 h2 (by omega) (by omega)
  refine ⟨by omega, by omega, fun h => ?_, fun h => ?_⟩
  · rcases Int.lt_or_le d 0 with q | q
    · have := Int.mul_pos_of_neg_of_neg q (show d - 9 < 0 by omega)
      omega
    · rcases Int.lt_or_le 9 d with r | r
      · have := Int.mul_pos (show 0 < d by omega) (show 0 < d - 9 by omega)
        omega
      · exact ⟨q, r⟩
  · have := Int.mul_nonneg h.1 (show 0 ≤ 9 - d by omega)
    rw [show d * (d - 9) = -(d * (9 - d)) by rw [← Int.mul_neg]; congr 1; omega]
    omega
theorem own_whole {x : Int32} {v : Int64} (h : x.toInt64 - (48 : Int64) = v) : (0 : Int32) < lcmpW (v * (v - (9 : Int64))) (0 : Int64) ↔ ¬ (48 ≤ x.toInt ∧ x.toInt ≤ 57) := by
  rw [lw_gt, Int64.lt_iff_toInt_lt, show (0 : Int64).toInt = 0 from rfl]
  have a1 := c_lsub x.toInt64 48
  have a2 := c_lsub v 9
  rw [h, c_i2l] at a1
  have r := rng32 x
  have r1 := rng64 v
  have r2 := rng64 (v - 9)
  rw [show (48 : Int64).toInt = 48 from rfl] at a1
  rw [show (9 : Int64).toInt = 9 from rfl] at a2
  have e1 : v.toInt = x.toInt - 48 := by omega
  have e2 : (v - 9).toInt = v.toInt - 9 := by omega
  have a3 := c_lmul v (v - 9)
  have r3 := rng64 (v * (v - 9))
  obtain ⟨p1, p2, p3⟩ := own_prod (d := v.toInt) (by omega) (by omega)
  rw [e2] at a3
  have e3 : (v * (v - 9)).toInt = v.toInt * (v.toInt - 9) := by omega
  rw [e3]
  omega
theorem own_F1 (x : Int32) : F1 x = if 48 ≤ x.toInt ∧ x.toInt ≤ 57 then 1 else 0 := by
  simp only [F1, Int32.lt_iff_toInt_lt, Int32.reduceToInt]
  generalize x.toInt = z
  repeat' split
  all_goals first | rfl | omega
theorem own_1 {x : Int32} {v : Int64} (h : x.toInt64 - (48 : Int64) = v) (hc : (0 : Int32) < lcmpW (v * (v - (9 : Int64))) (0 : Int64)) : F1 x = (0 : Int32) := by
  rw [own_F1, if_neg ((own_whole h).mp hc)]
theorem own_2 {x : Int32} {v : Int64} (h : x.toInt64 - (48 : Int64) = v) (hc : ¬ (0 : Int32) < lcmpW (v * (v - (9 : Int64))) (0 : Int64)) : F1 x = (1 : Int32) := by
  rw [own_F1, if_pos (Decidable.not_not.mp (mt (own_whole h).mpr hc))]
theorem own_dig {k d : Int32} (h : (48 : Int32) + ((k &&& (2147483647 : Int32)) % (10 : Int32)) = d) : 48 ≤ d.toInt ∧ d.toInt ≤ 57 := by
  have a2 := c_mask k 2147483647 31 (by decide) (by decide)
  have a3 := (c_irem (k &&& 2147483647) 10 10 (by decide)).1 (by rw [a2]; omega)
  have a4 := c_iadd 48 ((k &&& 2147483647) % 10)
  rw [h, show (48 : Int32).toInt = 48 from rfl] at a4
  have r := rng32 d
  omega
theorem own_3 {k d v : Int32} (h : (48 : Int32) + ((k &&& (2147483647 : Int32)) % (10 : Int32)) = d) (hv : F1 d = v) : ¬ v = (0 : Int32) := by
  rw [← hv, own_F1, if_pos (own_dig h)]; decide
theorem own_4 {k d : Int32} (h : (48 : Int32) + ((k &&& (2147483647 : Int32)) % (10 : Int32)) = d) : F1 (d - (10 : Int32)) = (0 : Int32) := by
  have a := own_dig h
  have b := c_isub d 10
  rw [show (10 : Int32).toInt = 10 from rfl] at b
  have r := rng32 (d - 10)
  rw [own_F1, if_neg (by omega)]
theorem own_5 {k d : Int32} (h : (48 : Int32) + ((k &&& (2147483647 : Int32)) % (10 : Int32)) = d) : F1 (d + (10 : Int32)) = (0 : Int32) := by
  have a := own_dig h
  have b := c_iadd d 10
  rw [show (10 : Int32).toInt = 10 from rfl] at b
  have r := rng32 (d + 10)
  rw [own_F1, if_neg (by omega)]

theorem pn0 : plainName "com/example/lotear/lotear/cnab/RecordIsDigitPinLaw" = true := by first | (simp [plainName, overriddenIn]; done) | decide +kernel
theorem pd0 : parseMethodDescriptor "(I)Z" = some ⟨[.int], some .boolean⟩ := by decide +kernel
theorem ef_rm0 (m : MethodId) (p0 : Int32) (p1 : Int32) : entryFrame m #[(.int p0), (.int p1)] maxLocals = mkF m 0 #[.val (.int p0), .val (.int p1), .unset, .unset, .unset, .unset, .unset, .unset, .unset, .unset, .unset] [] := by first | (simp [entryFrame, mkF, argsToLocals, Value.category, maxLocals]; done) | rfl
set_option maxRecDepth 65536 in
set_option maxHeartbeats 40000000 in
theorem rm0 (l : Launch) (Z : State) (a0 : Array Value) (hw : ∀ d ∈ tables_1, d.before a0 Z = true) (ws : List Jvm.Cond) (p0 : Int32) (p1 : Int32) (h0 : Heap) (n0 : Nat) (Z0 : n0 ≤ h0.size) :
    MetFree l x (head1 (Jvm.Cond.code x code maxLocals ret :: ws) room_1) (fun a U => a = #[(.int p0), (.int p1)] ∧ Z.Warmed39 U.vm ∧ U.heap = h0) (fun _ _ _ _ _ => True) (fun _ U o U' => ∃ v L, o = .returned v ∧ (own_True n0) v U'.heap L ∧ FrameEnd U o U' L 0 0) := by
  refine MetFree.of_bodySF (plainFor_of_name pn0) hisR ?_
  intro p e s m args below meth c s₁ Bd hml0 hP hK
  obtain ⟨rfl, hZ, hh⟩ := hP
  have hx := Bd.exec
  have hby := Bd.bytes
  have hml : c.maxLocals = 11 := hml0
  have hown : s.vm.findClass "com/example/lotear/lotear/cnab/RecordIsDigitPinLaw" = some m.cls := findClass_of_methodNamed Bd.named
  have hnm := (name_of_methodNamed Bd.named Bd.method).1
  have X0 : Stand p l e room_1 s m #[(.int p0), (.int p1)] below meth c s₁ [] 0 0 := Stand.of_body Bd
  have e0 : s₁.heap = h0 := by rw [← hh, Bd.state]; rfl
  have N0 := Fr.nil n0
  show own_Goes p e below (own_End s (own_True n0) 0 0) _
  refine own_go (G := s₁.setTop (mkF m 0 #[.val (.int p0), .val (.int p1), .unset, .unset, .unset, .unset, .unset, .unset, .unset, .unset, .unset] [])) (fun t k => castTop (ef_rm0 m p0 p1) k) ?_
  refine own_go (G := s₁.setTop (mkF m 1 #[.val (.int p0), .val (.int p1), .unset, .unset, .unset, .unset, .unset, .unset, .unset, .unset, .unset] [(.int p0)])) (fun _ k => XS.iloadN X0.here hx rfl (hb hby at_0) rfl k) ?_
  refine own_go (G := s₁.setTop (mkF m 2 #[.val (.int p0), .val (.int p1), .unset, .unset, .unset, .unset, .unset, .unset, .unset, .unset, .unset] [(.long (p0.toInt64))])) (fun _ k => XS.i2l X0.here hx rfl (hb hby at_1) rfl k) ?_
  refine own_go (G := s₁.setTop (mkF m 5 #[.val (.int p0), .val (.int p1), .unset, .unset, .unset, .unset, .unset, .unset, .unset, .unset, .unset] [(.long (48 : Int64)), (.long (p0.toInt64))])) (X0.ldc2Long hx hown (mvT hZ (hw _ (List.mem_of_getElem? (i := 0) rfl))) (g := (mkF m 2 #[.val (.int p0), .val (.int p1), .unset, .unset, .unset, .unset, .unset, .unset, .unset, .unset, .unset] [(.long (p0.toInt64))])) rfl (hb hby at_2)) ?_
  refine own_go (G := s₁.setTop (mkF m 6 #[.val (.int p0), .val (.int p1), .unset, .unset, .unset, .unset, .unset, .unset, .unset, .unset, .unset] [(.long ((p0.toInt64) - (48 : Int64)))])) (fun _ k => XS.lsub X0.here hx rfl (hb hby at_5) rfl k) ?_
  generalize hv1 : ((p0.toInt64) - (48 : Int64)) = v1
  refine own_go (G := s₁.setTop (mkF m 7 #[.val (.int p0), .val (.int p1), .val (.long v1), .second, .unset, .unset, .unset, .unset, .unset, .unset, .unset] [])) (fun _ k => XS.lstoreN X0.here hx rfl (hb hby at_6) rfl (l' := #[.val (.int p0), .val (.int p1), .val (.long v1), .second, .unset, .unset, .unset, .unset, .unset, .unset, .unset]) rfl k) ?_
  refine own_go (G := s₁.setTop (mkF m 8 #[.val (.int p0), .val (.int p1), .val (.long v1), .second, .unset, .unset, .unset, .unset, .unset, .unset, .unset] [(.long v1)])) (fun _ k => XS.lloadN X0.here hx rfl (hb hby at_7) rfl k) ?_
  refine own_go (G := s₁.setTop (mkF m 9 #[.val (.int p0), .val (.int p1), .val (.long v1), .second, .unset, .unset, .unset, .unset, .unset, .unset, .unset] [(.long v1), (.long v1)])) (fun _ k => XS.lloadN X0.here hx rfl (hb hby at_8) rfl k) ?_
  refine own_go (G := s₁.setTop (mkF m 12 #[.val (.int p0), .val (.int p1), .val (.long v1), .second, .unset, .unset, .unset, .unset, .unset, .unset, .unset] [(.long (9 : Int64)), (.long v1), (.long v1)])) (X0.ldc2Long hx hown (mvT hZ (hw _ (List.mem_of_getElem? (i := 1) rfl))) (g := (mkF m 9 #[.val (.int p0), .val (.int p1), .val (.long v1), .second, .unset, .unset, .unset, .unset, .unset, .unset, .unset] [(.long v1), (.long v1)])) rfl (hb hby at_9)) ?_
  refine own_go (G := s₁.setTop (mkF m 13 #[.val (.int p0), .val (.int p1), .val (.long v1), .second, .unset, .unset, .unset, .unset, .unset, .unset, .unset] [(.long (v1 - (9 : Int64))), (.long v1)])) (fun _ k => XS.lsub X0.here hx rfl (hb hby at_12) rfl k) ?_
  refine own_go (G := s₁.setTop (mkF m 14 #[.val (.int p0), .val (.int p1), .val (.long v1), .second, .unset, .unset, .unset, .unset, .unset, .unset, .unset] [(.long (v1 * (v1 - (9 : Int64))))])) (fun _ k => XS.lmul X0.here hx rfl (hb hby at_13) rfl k) ?_
  refine own_go (G := s₁.setTop (mkF m 15 #[.val (.int p0), .val (.int p1), .val (.long v1), .second, .unset, .unset, .unset, .unset, .unset, .unset, .unset] [(.long (0 : Int64)), (.long (v1 * (v1 - (9 : Int64))))])) (fun _ k => XS.lconst X0.here hx rfl (hb hby at_14) k) ?_
  refine own_go (G := s₁.setTop (mkF m 16 #[.val (.int p0), .val (.int p1), .val (.long v1), .second, .unset, .unset, .unset, .unset, .unset, .unset, .unset] [(.int (lcmpW (v1 * (v1 - (9 : Int64))) (0 : Int64)))])) (fun _ k => XS.lcmp X0.here hx rfl (hb hby at_15) rfl k) ?_
  by_cases hc16 : (0 : Int32) < (lcmpW (v1 * (v1 - (9 : Int64))) (0 : Int64))
  · skip
    refine own_go (G := s₁.setTop (mkF m 23 #[.val (.int p0), .val (.int p1), .val (.long v1), .second, .unset, .unset, .unset, .unset, .unset, .unset, .unset] [])) (fun _ k => XS.ifYes X0.here hx rfl (pc0 := 16) (pc' := 23) rfl (hb hby at_16) rfl ((if0 _ _).trans (tlt hc16).2.2.1) (by decide) (by decide) k) ?_
    refine own_go (G := s₁.setTop (mkF m 24 #[.val (.int p0), .val (.int p1), .val (.long v1), .second, .unset, .unset, .unset, .unset, .unset, .unset, .unset] [(.int (0 : Int32))])) (fun _ k => XS.iconst X0.here hx rfl (hb hby at_23) k) ?_
    refine own_go (G := s₁.setTop (mkF m 26 #[.val (.int p0), .val (.int p1), .val (.long v1), .second, .val (.int (0 : Int32)), .unset, .unset, .unset, .unset, .unset, .unset] [])) (fun _ k => XS.istore X0.here hx rfl (hb hby at_24) rfl (l' := #[.val (.int p0), .val (.int p1), .val (.long v1), .second, .val (.int (0 : Int32)), .unset, .unset, .unset, .unset, .unset, .unset]) rfl k) ?_
    refine own_go (G := s₁.setTop (mkF m 27 #[.val (.int p0), .val (.int p1), .val (.long v1), .second, .val (.int (0 : Int32)), .unset, .unset, .unset, .unset, .unset, .unset] [(.int p0)])) (fun _ k => XS.iloadN X0.here hx rfl (hb hby at_26) rfl k) ?_
    obtain ⟨_, _, ⟨T2, L2, k2, n2⟩, -, X2, ⟨Lc2, hQ2, l2, y2, z2⟩, st2⟩ := Jvm.LawKit.callS X0 hx (y := (⟨"com/example/lotear/lotear/cnab/Record", "isDigit", "(I)Z"⟩ : MethodName)) hown (mvT hZ (hw _ (List.mem_of_getElem? (i := 2) rfl))) (mvT hZ (hw _ (List.mem_of_getElem? (i := 3) rfl))) (mvT hZ (hw _ (List.mem_of_getElem? (i := 4) rfl))) (mvT hZ (hw _ (List.mem_of_getElem? (i := 5) rfl))) (by decide) (backOf (W := 0) (rm1 l Z a0 hw [] p0 h0 n0 Z0) hZ (hw _ (List.mem_of_getElem? (i := 5) rfl)) (hw _ (List.mem_of_getElem? (i := 4) rfl)) (by decide) (by decide)) (g := (mkF m 27 #[.val (.int p0), .val (.int p1), .val (.long v1), .second, .val (.int (0 : Int32)), .unset, .unset, .unset, .unset, .unset, .unset] [(.int p0)])) rfl (by rw [hml]; rfl) (argsL := [(.int p0)]) (rest := []) (lenOf pd0 rfl) rfl (by show 2 * 0 + _ ≤ _; exact Nat.le_of_eq rfl) (hb hby at_27) (fun _ _ => ⟨rfl, e0, (by decide : 0 + 0 ≤ _), (by decide : 0 + 0 ≤ _)⟩)
    dsimp only [Pt.U, Pt.locs, Pt.cells, Pt.slots] at X2 l2 y2 z2 st2 hQ2
    subst l2 y2 z2
    obtain ⟨rfl, Nq2, e2⟩ := hQ2
    have N2 := Fr.app N0 Nq2
    refine own_go (G := T2.setTop (mkF m 30 #[.val (.int p0), .val (.int p1), .val (.long v1), .second, .val (.int (0 : Int32)), .unset, .unset, .unset, .unset, .unset, .unset] [(.int (F1 p0))])) (st2) ?_
    refine own_go (G := T2.setTop (mkF m 32 #[.val (.int p0), .val (.int p1), .val (.long v1), .second, .val (.int (0 : Int32)), .unset, .unset, .unset, .unset, .unset, .unset] [(.int (0 : Int32)), (.int (F1 p0))])) (fun _ k => XS.iload X2.here hx rfl (hb hby at_30) rfl k) ?_
    refine own_go (G := T2.setTop (mkF m 35 #[.val (.int p0), .val (.int p1), .val (.long v1), .second, .val (.int (0 : Int32)), .unset, .unset, .unset, .unset, .unset, .unset] [])) (fun _ k => XS.icmpNo X2.here hx rfl (hb hby at_32) rfl (teq (own_1 hv1 hc16 : (F1 p0) = (0 : Int32))).2 k) ?_
    refine own_go (G := T2.setTop (mkF m 36 #[.val (.int p0), .val (.int p1), .val (.long v1), .second, .val (.int (0 : Int32)), .unset, .unset, .unset, .unset, .unset, .unset] [(.int (1 : Int32))])) (fun _ k => XS.iconst X2.here hx rfl (hb hby at_35) k) ?_
    refine own_go (G := T2.setTop (mkF m 40 #[.val (.int p0), .val (.int p1), .val (.long v1), .second, .val (.int (0 : Int32)), .unset, .unset, .unset, .unset, .unset, .unset] [(.int (1 : Int32))])) (fun _ k => XS.goto X2.here hx rfl (pc0 := 36) (pc' := 40) rfl (hb hby at_36) (by decide) (by decide) k) ?_
    refine own_go (G := T2.setTop (mkF m 42 #[.val (.int p0), .val (.int p1), .val (.long v1), .second, .val (.int (0 : Int32)), .val (.int (1 : Int32)), .unset, .unset, .unset, .unset, .unset] [])) (fun _ k => XS.istore X2.here hx rfl (hb hby at_40) rfl (l' := #[.val (.int p0), .val (.int p1), .val (.long v1), .second, .val (.int (0 : Int32)), .val (.int (1 : Int32)), .unset, .unset, .unset, .unset, .unset]) rfl k) ?_
    refine own_go (G := T2.setTop (mkF m 44 #[.val (.int p0), .val (.int p1), .val (.long v1), .second, .val (.int (0 : Int32)), .val (.int (1 : Int32)), .unset, .unset, .unset, .unset, .unset] [(.int (48 : Int32))])) (fun _ k => XS.bipush X2.here hx rfl (hb hby at_42) k) ?_
    refine own_go (G := T2.setTop (mkF m 45 #[.val (.int p0), .val (.int p1), .val (.long v1), .second, .val (.int (0 : Int32)), .val (.int (1 : Int32)), .unset, .unset, .unset, .unset, .unset] [(.int p1), (.int (48 : Int32))])) (fun _ k => XS.iloadN X2.here hx rfl (hb hby at_44) rfl k) ?_
    refine own_go (G := T2.setTop (mkF m 47 #[.val (.int p0), .val (.int p1), .val (.long v1), .second, .val (.int (0 : Int32)), .val (.int (1 : Int32)), .unset, .unset, .unset, .unset, .unset] [(.int (2147483647 : Int32)), (.int p1), (.int (48 : Int32))])) (X2.ldcInt hx hown (mvT hZ (hw _ (List.mem_of_getElem? (i := 6) rfl))) (g := (mkF m 45 #[.val (.int p0), .val (.int p1), .val (.long v1), .second, .val (.int (0 : Int32)), .val (.int (1 : Int32)), .unset, .unset, .unset, .unset, .unset] [(.int p1), (.int (48 : Int32))])) rfl (hb hby at_45)) ?_
    refine own_go (G := T2.setTop (mkF m 48 #[.val (.int p0), .val (.int p1), .val (.long v1), .second, .val (.int (0 : Int32)), .val (.int (1 : Int32)), .unset, .unset, .unset, .unset, .unset] [(.int (p1 &&& (2147483647 : Int32))), (.int (48 : Int32))])) (fun _ k => XS.iand X2.here hx rfl (hb hby at_47) rfl k) ?_
    refine own_go (G := T2.setTop (mkF m 50 #[.val (.int p0), .val (.int p1), .val (.long v1), .second, .val (.int (0 : Int32)), .val (.int (1 : Int32)), .unset, .unset, .unset, .unset, .unset] [(.int (10 : Int32)), (.int (p1 &&& (2147483647 : Int32))), (.int (48 : Int32))])) (fun _ k => XS.bipush X2.here hx rfl (hb hby at_48) k) ?_
    refine own_go (G := T2.setTop (mkF m 51 #[.val (.int p0), .val (.int p1), .val (.long v1), .second, .val (.int (0 : Int32)), .val (.int (1 : Int32)), .unset, .unset, .unset, .unset, .unset] [(.int ((p1 &&& (2147483647 : Int32)) % (10 : Int32))), (.int (48 : Int32))])) (fun _ k => iremM X2 hx rfl (hb hby at_50) rfl (by decide) k) ?_
    refine own_go (G := T2.setTop (mkF m 52 #[.val (.int p0), .val (.int p1), .val (.long v1), .second, .val (.int (0 : Int32)), .val (.int (1 : Int32)), .unset, .unset, .unset, .unset, .unset] [(.int ((48 : Int32) + ((p1 &&& (2147483647 : Int32)) % (10 : Int32))))])) (fun _ k => XS.iadd X2.here hx rfl (hb hby at_51) rfl k) ?_
    generalize hv3 : ((48 : Int32) + ((p1 &&& (2147483647 : Int32)) % (10 : Int32))) = v3
    refine own_go (G := T2.setTop (mkF m 54 #[.val (.int p0), .val (.int p1), .val (.long v1), .second, .val (.int (0 : Int32)), .val (.int (1 : Int32)), .val (.int v3), .unset, .unset, .unset, .unset] [])) (fun _ k => XS.istore X2.here hx rfl (hb hby at_52) rfl (l' := #[.val (.int p0), .val (.int p1), .val (.long v1), .second, .val (.int (0 : Int32)), .val (.int (1 : Int32)), .val (.int v3), .unset, .unset, .unset, .unset]) rfl k) ?_
    refine own_go (G := T2.setTop (mkF m 56 #[.val (.int p0), .val (.int p1), .val (.long v1), .second, .val (.int (0 : Int32)), .val (.int (1 : Int32)), .val (.int v3), .unset, .unset, .unset, .unset] [(.int v3)])) (fun _ k => XS.iload X2.here hx rfl (hb hby at_54) rfl k) ?_
    obtain ⟨_, _, ⟨T4, L4, k4, n4⟩, -, X4, ⟨Lc4, hQ4, l4, y4, z4⟩, st4⟩ := Jvm.LawKit.callS X2 hx (y := (⟨"com/example/lotear/lotear/cnab/Record", "isDigit", "(I)Z"⟩ : MethodName)) hown (mvT hZ (hw _ (List.mem_of_getElem? (i := 2) rfl))) (mvT hZ (hw _ (List.mem_of_getElem? (i := 3) rfl))) (mvT hZ (hw _ (List.mem_of_getElem? (i := 4) rfl))) (mvT hZ (hw _ (List.mem_of_getElem? (i := 5) rfl))) (by decide) (backOf (W := 0) (rm1 l Z a0 hw [] v3 h0 n0 Z0) hZ (hw _ (List.mem_of_getElem? (i := 5) rfl)) (hw _ (List.mem_of_getElem? (i := 4) rfl)) (by decide) (by decide)) (g := (mkF m 56 #[.val (.int p0), .val (.int p1), .val (.long v1), .second, .val (.int (0 : Int32)), .val (.int (1 : Int32)), .val (.int v3), .unset, .unset, .unset, .unset] [(.int v3)])) rfl (by rw [hml]; rfl) (argsL := [(.int v3)]) (rest := []) (lenOf pd0 rfl) rfl (by show 2 * 0 + _ ≤ _; exact Nat.le_of_eq rfl) (hb hby at_56) (fun _ _ => ⟨rfl, e2, (by decide : 0 + 0 ≤ _), (by decide : 0 + 0 ≤ _)⟩)
    dsimp only [Pt.U, Pt.locs, Pt.cells, Pt.slots] at X4 l4 y4 z4 st4 hQ4
    subst l4 y4 z4
    obtain ⟨rfl, Nq4, e4⟩ := hQ4
    have N4 := Fr.app N2 Nq4
    refine own_go (G := T4.setTop (mkF m 59 #[.val (.int p0), .val (.int p1), .val (.long v1), .second, .val (.int (0 : Int32)), .val (.int (1 : Int32)), .val (.int v3), .unset, .unset, .unset, .unset] [(.int (F1 v3))])) (st4) ?_
    generalize hv5 : (F1 v3) = v5
    refine own_go (G := T4.setTop (mkF m 61 #[.val (.int p0), .val (.int p1), .val (.long v1), .second, .val (.int (0 : Int32)), .val (.int (1 : Int32)), .val (.int v3), .val (.int v5), .unset, .unset, .unset] [])) (fun _ k => XS.istore X4.here hx rfl (hb hby at_59) rfl (l' := #[.val (.int p0), .val (.int p1), .val (.long v1), .second, .val (.int (0 : Int32)), .val (.int (1 : Int32)), .val (.int v3), .val (.int v5), .unset, .unset, .unset]) rfl k) ?_
    refine own_go (G := T4.setTop (mkF m 63 #[.val (.int p0), .val (.int p1), .val (.long v1), .second, .val (.int (0 : Int32)), .val (.int (1 : Int32)), .val (.int v3), .val (.int v5), .unset, .unset, .unset] [(.int (47 : Int32))])) (fun _ k => XS.bipush X4.here hx rfl (hb hby at_61) k) ?_
    obtain ⟨_, _, ⟨T6, L6, k6, n6⟩, -, X6, ⟨Lc6, hQ6, l6, y6, z6⟩, st6⟩ := Jvm.LawKit.callS X4 hx (y := (⟨"com/example/lotear/lotear/cnab/Record", "isDigit", "(I)Z"⟩ : MethodName)) hown (mvT hZ (hw _ (List.mem_of_getElem? (i := 2) rfl))) (mvT hZ (hw _ (List.mem_of_getElem? (i := 3) rfl))) (mvT hZ (hw _ (List.mem_of_getElem? (i := 4) rfl))) (mvT hZ (hw _ (List.mem_of_getElem? (i := 5) rfl))) (by decide) (backOf (W := 0) (rm1 l Z a0 hw [] (47 : Int32) h0 n0 Z0) hZ (hw _ (List.mem_of_getElem? (i := 5) rfl)) (hw _ (List.mem_of_getElem? (i := 4) rfl)) (by decide) (by decide)) (g := (mkF m 63 #[.val (.int p0), .val (.int p1), .val (.long v1), .second, .val (.int (0 : Int32)), .val (.int (1 : Int32)), .val (.int v3), .val (.int v5), .unset, .unset, .unset] [(.int (47 : Int32))])) rfl (by rw [hml]; rfl) (argsL := [(.int (47 : Int32))]) (rest := []) (lenOf pd0 rfl) rfl (by show 2 * 0 + _ ≤ _; exact Nat.le_of_eq rfl) (hb hby at_63) (fun _ _ => ⟨rfl, e4, (by decide : 0 + 0 ≤ _), (by decide : 0 + 0 ≤ _)⟩)
    dsimp only [Pt.U, Pt.locs, Pt.cells, Pt.slots] at X6 l6 y6 z6 st6 hQ6
    subst l6 y6 z6
    obtain ⟨rfl, Nq6, e6⟩ := hQ6
    have N6 := Fr.app N4 Nq6
    refine own_go (G := T6.setTop (mkF m 66 #[.val (.int p0), .val (.int p1), .val (.long v1), .second, .val (.int (0 : Int32)), .val (.int (1 : Int32)), .val (.int v3), .val (.int v5), .unset, .unset, .unset] [(.int (F1 (47 : Int32)))])) (st6) ?_
    refine own_go (G := T6.setTop (mkF m 69 #[.val (.int p0), .val (.int p1), .val (.long v1), .second, .val (.int (0 : Int32)), .val (.int (1 : Int32)), .val (.int v3), .val (.int v5), .unset, .unset, .unset] [])) (fun _ k => XS.ifNo X6.here hx rfl (hb hby at_66) rfl ((if0 _ _).trans (teq (by decide : (F1 (47 : Int32)) = (0 : Int32))).2) k) ?_
    refine own_go (G := T6.setTop (mkF m 70 #[.val (.int p0), .val (.int p1), .val (.long v1), .second, .val (.int (0 : Int32)), .val (.int (1 : Int32)), .val (.int v3), .val (.int v5), .unset, .unset, .unset] [(.int (1 : Int32))])) (fun _ k => XS.iconst X6.here hx rfl (hb hby at_69) k) ?_
    refine own_go (G := T6.setTop (mkF m 74 #[.val (.int p0), .val (.int p1), .val (.long v1), .second, .val (.int (0 : Int32)), .val (.int (1 : Int32)), .val (.int v3), .val (.int v5), .unset, .unset, .unset] [(.int (1 : Int32))])) (fun _ k => XS.goto X6.here hx rfl (pc0 := 70) (pc' := 74) rfl (hb hby at_70) (by decide) (by decide) k) ?_
    refine own_go (G := T6.setTop (mkF m 76 #[.val (.int p0), .val (.int p1), .val (.long v1), .second, .val (.int (0 : Int32)), .val (.int (1 : Int32)), .val (.int v3), .val (.int v5), .val (.int (1 : Int32)), .unset, .unset] [])) (fun _ k => XS.istore X6.here hx rfl (hb hby at_74) rfl (l' := #[.val (.int p0), .val (.int p1), .val (.long v1), .second, .val (.int (0 : Int32)), .val (.int (1 : Int32)), .val (.int v3), .val (.int v5), .val (.int (1 : Int32)), .unset, .unset]) rfl k) ?_
    refine own_go (G := T6.setTop (mkF m 78 #[.val (.int p0), .val (.int p1), .val (.long v1), .second, .val (.int (0 : Int32)), .val (.int (1 : Int32)), .val (.int v3), .val (.int v5), .val (.int (1 : Int32)), .unset, .unset] [(.int (58 : Int32))])) (fun _ k => XS.bipush X6.here hx rfl (hb hby at_76) k) ?_
    obtain ⟨_, _, ⟨T7, L7, k7, n7⟩, -, X7, ⟨Lc7, hQ7, l7, y7, z7⟩, st7⟩ := Jvm.LawKit.callS X6 hx (y := (⟨"com/example/lotear/lotear/cnab/Record", "isDigit", "(I)Z"⟩ : MethodName)) hown (mvT hZ (hw _ (List.mem_of_getElem? (i := 2) rfl))) (mvT hZ (hw _ (List.mem_of_getElem? (i := 3) rfl))) (mvT hZ (hw _ (List.mem_of_getElem? (i := 4) rfl))) (mvT hZ (hw _ (List.mem_of_getElem? (i := 5) rfl))) (by decide) (backOf (W := 0) (rm1 l Z a0 hw [] (58 : Int32) h0 n0 Z0) hZ (hw _ (List.mem_of_getElem? (i := 5) rfl)) (hw _ (List.mem_of_getElem? (i := 4) rfl)) (by decide) (by decide)) (g := (mkF m 78 #[.val (.int p0), .val (.int p1), .val (.long v1), .second, .val (.int (0 : Int32)), .val (.int (1 : Int32)), .val (.int v3), .val (.int v5), .val (.int (1 : Int32)), .unset, .unset] [(.int (58 : Int32))])) rfl (by rw [hml]; rfl) (argsL := [(.int (58 : Int32))]) (rest := []) (lenOf pd0 rfl) rfl (by show 2 * 0 + _ ≤ _; exact Nat.le_of_eq rfl) (hb hby at_78) (fun _ _ => ⟨rfl, e6, (by decide : 0 + 0 ≤ _), (by decide : 0 + 0 ≤ _)⟩)
    dsimp only [Pt.U, Pt.locs, Pt.cells, Pt.slots] at X7 l7 y7 z7 st7 hQ7
    subst l7 y7 z7
    obtain ⟨rfl, Nq7, e7⟩ := hQ7
    have N7 := Fr.app N6 Nq7
    refine own_go (G := T7.setTop (mkF m 81 #[.val (.int p0), .val (.int p1), .val (.long v1), .second, .val (.int (0 : Int32)), .val (.int (1 : Int32)), .val (.int v3), .val (.int v5), .val (.int (1 : Int32)), .unset, .unset] [(.int (F1 (58 : Int32)))])) (st7) ?_
    refine own_go (G := T7.setTop (mkF m 84 #[.val (.int p0), .val (.int p1), .val (.long v1), .second, .val (.int (0 : Int32)), .val (.int (1 : Int32)), .val (.int v3), .val (.int v5), .val (.int (1 : Int32)), .unset, .unset] [])) (fun _ k => XS.ifNo X7.here hx rfl (hb hby at_81) rfl ((if0 _ _).trans (teq (by decide : (F1 (58 : Int32)) = (0 : Int32))).2) k) ?_
    refine own_go (G := T7.setTop (mkF m 85 #[.val (.int p0), .val (.int p1), .val (.long v1), .second, .val (.int (0 : Int32)), .val (.int (1 : Int32)), .val (.int v3), .val (.int v5), .val (.int (1 : Int32)), .unset, .unset] [(.int (1 : Int32))])) (fun _ k => XS.iconst X7.here hx rfl (hb hby at_84) k) ?_
    refine own_go (G := T7.setTop (mkF m 89 #[.val (.int p0), .val (.int p1), .val (.long v1), .second, .val (.int (0 : Int32)), .val (.int (1 : Int32)), .val (.int v3), .val (.int v5), .val (.int (1 : Int32)), .unset, .unset] [(.int (1 : Int32))])) (fun _ k => XS.goto X7.here hx rfl (pc0 := 85) (pc' := 89) rfl (hb hby at_85) (by decide) (by decide) k) ?_
    refine own_go (G := T7.setTop (mkF m 91 #[.val (.int p0), .val (.int p1), .val (.long v1), .second, .val (.int (0 : Int32)), .val (.int (1 : Int32)), .val (.int v3), .val (.int v5), .val (.int (1 : Int32)), .val (.int (1 : Int32)), .unset] [])) (fun _ k => XS.istore X7.here hx rfl (hb hby at_89) rfl (l' := #[.val (.int p0), .val (.int p1), .val (.long v1), .second, .val (.int (0 : Int32)), .val (.int (1 : Int32)), .val (.int v3), .val (.int v5), .val (.int (1 : Int32)), .val (.int (1 : Int32)), .unset]) rfl k) ?_
    refine own_go (G := T7.setTop (mkF m 93 #[.val (.int p0), .val (.int p1), .val (.long v1), .second, .val (.int (0 : Int32)), .val (.int (1 : Int32)), .val (.int v3), .val (.int v5), .val (.int (1 : Int32)), .val (.int (1 : Int32)), .unset] [(.int v3)])) (fun _ k => XS.iload X7.here hx rfl (hb hby at_91) rfl k) ?_
    refine own_go (G := T7.setTop (mkF m 95 #[.val (.int p0), .val (.int p1), .val (.long v1), .second, .val (.int (0 : Int32)), .val (.int (1 : Int32)), .val (.int v3), .val (.int v5), .val (.int (1 : Int32)), .val (.int (1 : Int32)), .unset] [(.int (10 : Int32)), (.int v3)])) (fun _ k => XS.bipush X7.here hx rfl (hb hby at_93) k) ?_
    refine own_go (G := T7.setTop (mkF m 96 #[.val (.int p0), .val (.int p1), .val (.long v1), .second, .val (.int (0 : Int32)), .val (.int (1 : Int32)), .val (.int v3), .val (.int v5), .val (.int (1 : Int32)), .val (.int (1 : Int32)), .unset] [(.int (v3 - (10 : Int32)))])) (fun _ k => XS.isub X7.here hx rfl (hb hby at_95) rfl k) ?_
    obtain ⟨_, _, ⟨T8, L8, k8, n8⟩, -, X8, ⟨Lc8, hQ8, l8, y8, z8⟩, st8⟩ := Jvm.LawKit.callS X7 hx (y := (⟨"com/example/lotear/lotear/cnab/Record", "isDigit", "(I)Z"⟩ : MethodName)) hown (mvT hZ (hw _ (List.mem_of_getElem? (i := 2) rfl))) (mvT hZ (hw _ (List.mem_of_getElem? (i := 3) rfl))) (mvT hZ (hw _ (List.mem_of_getElem? (i := 4) rfl))) (mvT hZ (hw _ (List.mem_of_getElem? (i := 5) rfl))) (by decide) (backOf (W := 0) (rm1 l Z a0 hw [] (v3 - (10 : Int32)) h0 n0 Z0) hZ (hw _ (List.mem_of_getElem? (i := 5) rfl)) (hw _ (List.mem_of_getElem? (i := 4) rfl)) (by decide) (by decide)) (g := (mkF m 96 #[.val (.int p0), .val (.int p1), .val (.long v1), .second, .val (.int (0 : Int32)), .val (.int (1 : Int32)), .val (.int v3), .val (.int v5), .val (.int (1 : Int32)), .val (.int (1 : Int32)), .unset] [(.int (v3 - (10 : Int32)))])) rfl (by rw [hml]; rfl) (argsL := [(.int (v3 - (10 : Int32)))]) (rest := []) (lenOf pd0 rfl) rfl (by show 2 * 0 + _ ≤ _; exact Nat.le_of_eq rfl) (hb hby at_96) (fun _ _ => ⟨rfl, e7, (by decide : 0 + 0 ≤ _), (by decide : 0 + 0 ≤ _)⟩)
    dsimp only [Pt.U, Pt.locs, Pt.cells, Pt.slots] at X8 l8 y8 z8 st8 hQ8
    subst l8 y8 z8
    obtain ⟨rfl, Nq8, e8⟩ := hQ8
    have N8 := Fr.app N7 Nq8
    refine own_go (G := T8.setTop (mkF m 99 #[.val (.int p0), .val (.int p1), .val (.long v1), .second, .val (.int (0 : Int32)), .val (.int (1 : Int32)), .val (.int v3), .val (.int v5), .val (.int (1 : Int32)), .val (.int (1 : Int32)), .unset] [(.int (F1 (v3 - (10 : Int32))))])) (st8) ?_
    refine own_go (G := T8.setTop (mkF m 102 #[.val (.int p0), .val (.int p1), .val (.long v1), .second, .val (.int (0 : Int32)), .val (.int (1 : Int32)), .val (.int v3), .val (.int v5), .val (.int (1 : Int32)), .val (.int (1 : Int32)), .unset] [])) (fun _ k => XS.ifNo X8.here hx rfl (hb hby at_99) rfl ((if0 _ _).trans (teq (own_4 hv3 : (F1 (v3 - (10 : Int32))) = (0 : Int32))).2) k) ?_
    refine own_go (G := T8.setTop (mkF m 104 #[.val (.int p0), .val (.int p1), .val (.long v1), .second, .val (.int (0 : Int32)), .val (.int (1 : Int32)), .val (.int v3), .val (.int v5), .val (.int (1 : Int32)), .val (.int (1 : Int32)), .unset] [(.int v3)])) (fun _ k => XS.iload X8.here hx rfl (hb hby at_102) rfl k) ?_
    refine own_go (G := T8.setTop (mkF m 106 #[.val (.int p0), .val (.int p1), .val (.long v1), .second, .val (.int (0 : Int32)), .val (.int (1 : Int32)), .val (.int v3), .val (.int v5), .val (.int (1 : Int32)), .val (.int (1 : Int32)), .unset] [(.int (10 : Int32)), (.int v3)])) (fun _ k => XS.bipush X8.here hx rfl (hb hby at_104) k) ?_
    refine own_go (G := T8.setTop (mkF m 107 #[.val (.int p0), .val (.int p1), .val (.long v1), .second, .val (.int (0 : Int32)), .val (.int (1 : Int32)), .val (.int v3), .val (.int v5), .val (.int (1 : Int32)), .val (.int (1 : Int32)), .unset] [(.int (v3 + (10 : Int32)))])) (fun _ k => XS.iadd X8.here hx rfl (hb hby at_106) rfl k) ?_
    obtain ⟨_, _, ⟨T9, L9, k9, n9⟩, -, X9, ⟨Lc9, hQ9, l9, y9, z9⟩, st9⟩ := Jvm.LawKit.callS X8 hx (y := (⟨"com/example/lotear/lotear/cnab/Record", "isDigit", "(I)Z"⟩ : MethodName)) hown (mvT hZ (hw _ (List.mem_of_getElem? (i := 2) rfl))) (mvT hZ (hw _ (List.mem_of_getElem? (i := 3) rfl))) (mvT hZ (hw _ (List.mem_of_getElem? (i := 4) rfl))) (mvT hZ (hw _ (List.mem_of_getElem? (i := 5) rfl))) (by decide) (backOf (W := 0) (rm1 l Z a0 hw [] (v3 + (10 : Int32)) h0 n0 Z0) hZ (hw _ (List.mem_of_getElem? (i := 5) rfl)) (hw _ (List.mem_of_getElem? (i := 4) rfl)) (by decide) (by decide)) (g := (mkF m 107 #[.val (.int p0), .val (.int p1), .val (.long v1), .second, .val (.int (0 : Int32)), .val (.int (1 : Int32)), .val (.int v3), .val (.int v5), .val (.int (1 : Int32)), .val (.int (1 : Int32)), .unset] [(.int (v3 + (10 : Int32)))])) rfl (by rw [hml]; rfl) (argsL := [(.int (v3 + (10 : Int32)))]) (rest := []) (lenOf pd0 rfl) rfl (by show 2 * 0 + _ ≤ _; exact Nat.le_of_eq rfl) (hb hby at_107) (fun _ _ => ⟨rfl, e8, (by decide : 0 + 0 ≤ _), (by decide : 0 + 0 ≤ _)⟩)
    dsimp only [Pt.U, Pt.locs, Pt.cells, Pt.slots] at X9 l9 y9 z9 st9 hQ9
    subst l9 y9 z9
    obtain ⟨rfl, Nq9, e9⟩ := hQ9
    have N9 := Fr.app N8 Nq9
    refine own_go (G := T9.setTop (mkF m 110 #[.val (.int p0), .val (.int p1), .val (.long v1), .second, .val (.int (0 : Int32)), .val (.int (1 : Int32)), .val (.int v3), .val (.int v5), .val (.int (1 : Int32)), .val (.int (1 : Int32)), .unset] [(.int (F1 (v3 + (10 : Int32))))])) (st9) ?_
    refine own_go (G := T9.setTop (mkF m 113 #[.val (.int p0), .val (.int p1), .val (.long v1), .second, .val (.int (0 : Int32)), .val (.int (1 : Int32)), .val (.int v3), .val (.int v5), .val (.int (1 : Int32)), .val (.int (1 : Int32)), .unset] [])) (fun _ k => XS.ifNo X9.here hx rfl (hb hby at_110) rfl ((if0 _ _).trans (teq (own_5 hv3 : (F1 (v3 + (10 : Int32))) = (0 : Int32))).2) k) ?_
    refine own_go (G := T9.setTop (mkF m 114 #[.val (.int p0), .val (.int p1), .val (.long v1), .second, .val (.int (0 : Int32)), .val (.int (1 : Int32)), .val (.int v3), .val (.int v5), .val (.int (1 : Int32)), .val (.int (1 : Int32)), .unset] [(.int (1 : Int32))])) (fun _ k => XS.iconst X9.here hx rfl (hb hby at_113) k) ?_
    refine own_go (G := T9.setTop (mkF m 118 #[.val (.int p0), .val (.int p1), .val (.long v1), .second, .val (.int (0 : Int32)), .val (.int (1 : Int32)), .val (.int v3), .val (.int v5), .val (.int (1 : Int32)), .val (.int (1 : Int32)), .unset] [(.int (1 : Int32))])) (fun _ k => XS.goto X9.here hx rfl (pc0 := 114) (pc' := 118) rfl (hb hby at_114) (by decide) (by decide) k) ?_
    refine own_go (G := T9.setTop (mkF m 120 #[.val (.int p0), .val (.int p1), .val (.long v1), .second, .val (.int (0 : Int32)), .val (.int (1 : Int32)), .val (.int v3), .val (.int v5), .val (.int (1 : Int32)), .val (.int (1 : Int32)), .val (.int (1 : Int32))] [])) (fun _ k => XS.istore X9.here hx rfl (hb hby at_118) rfl (l' := #[.val (.int p0), .val (.int p1), .val (.long v1), .second, .val (.int (0 : Int32)), .val (.int (1 : Int32)), .val (.int v3), .val (.int v5), .val (.int (1 : Int32)), .val (.int (1 : Int32)), .val (.int (1 : Int32))]) rfl k) ?_
    refine own_go (G := T9.setTop (mkF m 122 #[.val (.int p0), .val (.int p1), .val (.long v1), .second, .val (.int (0 : Int32)), .val (.int (1 : Int32)), .val (.int v3), .val (.int v5), .val (.int (1 : Int32)), .val (.int (1 : Int32)), .val (.int (1 : Int32))] [(.int (1 : Int32))])) (fun _ k => XS.iload X9.here hx rfl (hb hby at_120) rfl k) ?_
    refine own_go (G := T9.setTop (mkF m 125 #[.val (.int p0), .val (.int p1), .val (.long v1), .second, .val (.int (0 : Int32)), .val (.int (1 : Int32)), .val (.int v3), .val (.int v5), .val (.int (1 : Int32)), .val (.int (1 : Int32)), .val (.int (1 : Int32))] [])) (fun _ k => XS.ifNo X9.here hx rfl (hb hby at_122) rfl ((if0 _ _).trans (feq (by decide : ¬ ((1 : Int32) = (0 : Int32)))).1) k) ?_
    refine own_go (G := T9.setTop (mkF m 127 #[.val (.int p0), .val (.int p1), .val (.long v1), .second, .val (.int (0 : Int32)), .val (.int (1 : Int32)), .val (.int v3), .val (.int v5), .val (.int (1 : Int32)), .val (.int (1 : Int32)), .val (.int (1 : Int32))] [(.int v5)])) (fun _ k => XS.iload X9.here hx rfl (hb hby at_125) rfl k) ?_
    refine own_go (G := T9.setTop (mkF m 130 #[.val (.int p0), .val (.int p1), .val (.long v1), .second, .val (.int (0 : Int32)), .val (.int (1 : Int32)), .val (.int v3), .val (.int v5), .val (.int (1 : Int32)), .val (.int (1 : Int32)), .val (.int (1 : Int32))] [])) (fun _ k => XS.ifNo X9.here hx rfl (hb hby at_127) rfl ((if0 _ _).trans (feq (own_3 hv3 hv5 : ¬ (v5 = (0 : Int32)))).1) k) ?_
    refine own_go (G := T9.setTop (mkF m 132 #[.val (.int p0), .val (.int p1), .val (.long v1), .second, .val (.int (0 : Int32)), .val (.int (1 : Int32)), .val (.int v3), .val (.int v5), .val (.int (1 : Int32)), .val (.int (1 : Int32)), .val (.int (1 : Int32))] [(.int (1 : Int32))])) (fun _ k => XS.iload X9.here hx rfl (hb hby at_130) rfl k) ?_
    refine own_go (G := T9.setTop (mkF m 135 #[.val (.int p0), .val (.int p1), .val (.long v1), .second, .val (.int (0 : Int32)), .val (.int (1 : Int32)), .val (.int v3), .val (.int v5), .val (.int (1 : Int32)), .val (.int (1 : Int32)), .val (.int (1 : Int32))] [])) (fun _ k => XS.ifNo X9.here hx rfl (hb hby at_132) rfl ((if0 _ _).trans (feq (by decide : ¬ ((1 : Int32) = (0 : Int32)))).1) k) ?_
    refine own_go (G := T9.setTop (mkF m 137 #[.val (.int p0), .val (.int p1), .val (.long v1), .second, .val (.int (0 : Int32)), .val (.int (1 : Int32)), .val (.int v3), .val (.int v5), .val (.int (1 : Int32)), .val (.int (1 : Int32)), .val (.int (1 : Int32))] [(.int (1 : Int32))])) (fun _ k => XS.iload X9.here hx rfl (hb hby at_135) rfl k) ?_
    refine own_go (G := T9.setTop (mkF m 140 #[.val (.int p0), .val (.int p1), .val (.long v1), .second, .val (.int (0 : Int32)), .val (.int (1 : Int32)), .val (.int v3), .val (.int v5), .val (.int (1 : Int32)), .val (.int (1 : Int32)), .val (.int (1 : Int32))] [])) (fun _ k => XS.ifNo X9.here hx rfl (hb hby at_137) rfl ((if0 _ _).trans (feq (by decide : ¬ ((1 : Int32) = (0 : Int32)))).1) k) ?_
    refine own_go (G := T9.setTop (mkF m 142 #[.val (.int p0), .val (.int p1), .val (.long v1), .second, .val (.int (0 : Int32)), .val (.int (1 : Int32)), .val (.int v3), .val (.int v5), .val (.int (1 : Int32)), .val (.int (1 : Int32)), .val (.int (1 : Int32))] [(.int (1 : Int32))])) (fun _ k => XS.iload X9.here hx rfl (hb hby at_140) rfl k) ?_
    refine own_go (G := T9.setTop (mkF m 145 #[.val (.int p0), .val (.int p1), .val (.long v1), .second, .val (.int (0 : Int32)), .val (.int (1 : Int32)), .val (.int v3), .val (.int v5), .val (.int (1 : Int32)), .val (.int (1 : Int32)), .val (.int (1 : Int32))] [])) (fun _ k => XS.ifNo X9.here hx rfl (hb hby at_142) rfl ((if0 _ _).trans (feq (by decide : ¬ ((1 : Int32) = (0 : Int32)))).1) k) ?_
    refine own_go (G := T9.setTop (mkF m 146 #[.val (.int p0), .val (.int p1), .val (.long v1), .second, .val (.int (0 : Int32)), .val (.int (1 : Int32)), .val (.int v3), .val (.int v5), .val (.int (1 : Int32)), .val (.int (1 : Int32)), .val (.int (1 : Int32))] [(.int (1 : Int32))])) (fun _ k => XS.iconst X9.here hx rfl (hb hby at_145) k) ?_
    refine own_go (G := T9.setTop (mkF m 150 #[.val (.int p0), .val (.int p1), .val (.long v1), .second, .val (.int (0 : Int32)), .val (.int (1 : Int32)), .val (.int v3), .val (.int v5), .val (.int (1 : Int32)), .val (.int (1 : Int32)), .val (.int (1 : Int32))] [(.int (1 : Int32))])) (fun _ k => XS.goto X9.here hx rfl (pc0 := 146) (pc' := 150) rfl (hb hby at_146) (by decide) (by decide) k) ?_
    exact own_ret1 X9 hx Bd.returns (hb hby at_150) Bd.notSynchronized (by decide) (by decide) ⟨rfl, N9⟩
  · skip
    refine own_go (G := s₁.setTop (mkF m 19 #[.val (.int p0), .val (.int p1), .val (.long v1), .second, .unset, .unset, .unset, .unset, .unset, .unset, .unset] [])) (fun _ k => XS.ifNo X0.here hx rfl (hb hby at_16) rfl ((if0 _ _).trans (flt hc16).2.2.1) k) ?_
    refine own_go (G := s₁.setTop (mkF m 20 #[.val (.int p0), .val (.int p1), .val (.long v1), .second, .unset, .unset, .unset, .unset, .unset, .unset, .unset] [(.int (1 : Int32))])) (fun _ k => XS.iconst X0.here hx rfl (hb hby at_19) k) ?_
    refine own_go (G := s₁.setTop (mkF m 24 #[.val (.int p0), .val (.int p1), .val (.long v1), .second, .unset, .unset, .unset, .unset, .unset, .unset, .unset] [(.int (1 : Int32))])) (fun _ k => XS.goto X0.here hx rfl (pc0 := 20) (pc' := 24) rfl (hb hby at_20) (by decide) (by decide) k) ?_
    refine own_go (G := s₁.setTop (mkF m 26 #[.val (.int p0), .val (.int p1), .val (.long v1), .second, .val (.int (1 : Int32)), .unset, .unset, .unset, .unset, .unset, .unset] [])) (fun _ k => XS.istore X0.here hx rfl (hb hby at_24) rfl (l' := #[.val (.int p0), .val (.int p1), .val (.long v1), .second, .val (.int (1 : Int32)), .unset, .unset, .unset, .unset, .unset, .unset]) rfl k) ?_
    refine own_go (G := s₁.setTop (mkF m 27 #[.val (.int p0), .val (.int p1), .val (.long v1), .second, .val (.int (1 : Int32)), .unset, .unset, .unset, .unset, .unset, .unset] [(.int p0)])) (fun _ k => XS.iloadN X0.here hx rfl (hb hby at_26) rfl k) ?_
    obtain ⟨_, _, ⟨T10, L10, k10, n10⟩, -, X10, ⟨Lc10, hQ10, l10, y10, z10⟩, st10⟩ := Jvm.LawKit.callS X0 hx (y := (⟨"com/example/lotear/lotear/cnab/Record", "isDigit", "(I)Z"⟩ : MethodName)) hown (mvT hZ (hw _ (List.mem_of_getElem? (i := 2) rfl))) (mvT hZ (hw _ (List.mem_of_getElem? (i := 3) rfl))) (mvT hZ (hw _ (List.mem_of_getElem? (i := 4) rfl))) (mvT hZ (hw _ (List.mem_of_getElem? (i := 5) rfl))) (by decide) (backOf (W := 0) (rm1 l Z a0 hw [] p0 h0 n0 Z0) hZ (hw _ (List.mem_of_getElem? (i := 5) rfl)) (hw _ (List.mem_of_getElem? (i := 4) rfl)) (by decide) (by decide)) (g := (mkF m 27 #[.val (.int p0), .val (.int p1), .val (.long v1), .second, .val (.int (1 : Int32)), .unset, .unset, .unset, .unset, .unset, .unset] [(.int p0)])) rfl (by rw [hml]; rfl) (argsL := [(.int p0)]) (rest := []) (lenOf pd0 rfl) rfl (by show 2 * 0 + _ ≤ _; exact Nat.le_of_eq rfl) (hb hby at_27) (fun _ _ => ⟨rfl, e0, (by decide : 0 + 0 ≤ _), (by decide : 0 + 0 ≤ _)⟩)
    dsimp only [Pt.U, Pt.locs, Pt.cells, Pt.slots] at X10 l10 y10 z10 st10 hQ10
    subst l10 y10 z10
    obtain ⟨rfl, Nq10, e10⟩ := hQ10
    have N10 := Fr.app N0 Nq10
    refine own_go (G := T10.setTop (mkF m 30 #[.val (.int p0), .val (.int p1), .val (.long v1), .second, .val (.int (1 : Int32)), .unset, .unset, .unset, .unset, .unset, .unset] [(.int (F1 p0))])) (st10) ?_
    refine own_go (G := T10.setTop (mkF m 32 #[.val (.int p0), .val (.int p1), .val (.long v1), .second, .val (.int (1 : Int32)), .unset, .unset, .unset, .unset, .unset, .unset] [(.int (1 : Int32)), (.int (F1 p0))])) (fun _ k => XS.iload X10.here hx rfl (hb hby at_30) rfl k) ?_
    refine own_go (G := T10.setTop (mkF m 35 #[.val (.int p0), .val (.int p1), .val (.long v1), .second, .val (.int (1 : Int32)), .unset, .unset, .unset, .unset, .unset, .unset] [])) (fun _ k => XS.icmpNo X10.here hx rfl (hb hby at_32) rfl (teq (own_2 hv1 hc16 : (F1 p0) = (1 : Int32))).2 k) ?_
    refine own_go (G := T10.setTop (mkF m 36 #[.val (.int p0), .val (.int p1), .val (.long v1), .second, .val (.int (1 : Int32)), .unset, .unset, .unset, .unset, .unset, .unset] [(.int (1 : Int32))])) (fun _ k => XS.iconst X10.here hx rfl (hb hby at_35) k) ?_
    refine own_go (G := T10.setTop (mkF m 40 #[.val (.int p0), .val (.int p1), .val (.long v1), .second, .val (.int (1 : Int32)), .unset, .unset, .unset, .unset, .unset, .unset] [(.int (1 : Int32))])) (fun _ k => XS.goto X10.here hx rfl (pc0 := 36) (pc' := 40) rfl (hb hby at_36) (by decide) (by decide) k) ?_
    refine own_go (G := T10.setTop (mkF m 42 #[.val (.int p0), .val (.int p1), .val (.long v1), .second, .val (.int (1 : Int32)), .val (.int (1 : Int32)), .unset, .unset, .unset, .unset, .unset] [])) (fun _ k => XS.istore X10.here hx rfl (hb hby at_40) rfl (l' := #[.val (.int p0), .val (.int p1), .val (.long v1), .second, .val (.int (1 : Int32)), .val (.int (1 : Int32)), .unset, .unset, .unset, .unset, .unset]) rfl k) ?_
    refine own_go (G := T10.setTop (mkF m 44 #[.val (.int p0), .val (.int p1), .val (.long v1), .second, .val (.int (1 : Int32)), .val (.int (1 : Int32)), .unset, .unset, .unset, .unset, .unset] [(.int (48 : Int32))])) (fun _ k => XS.bipush X10.here hx rfl (hb hby at_42) k) ?_
    refine own_go (G := T10.setTop (mkF m 45 #[.val (.int p0), .val (.int p1), .val (.long v1), .second, .val (.int (1 : Int32)), .val (.int (1 : Int32)), .unset, .unset, .unset, .unset, .unset] [(.int p1), (.int (48 : Int32))])) (fun _ k => XS.iloadN X10.here hx rfl (hb hby at_44) rfl k) ?_
    refine own_go (G := T10.setTop (mkF m 47 #[.val (.int p0), .val (.int p1), .val (.long v1), .second, .val (.int (1 : Int32)), .val (.int (1 : Int32)), .unset, .unset, .unset, .unset, .unset] [(.int (2147483647 : Int32)), (.int p1), (.int (48 : Int32))])) (X10.ldcInt hx hown (mvT hZ (hw _ (List.mem_of_getElem? (i := 6) rfl))) (g := (mkF m 45 #[.val (.int p0), .val (.int p1), .val (.long v1), .second, .val (.int (1 : Int32)), .val (.int (1 : Int32)), .unset, .unset, .unset, .unset, .unset] [(.int p1), (.int (48 : Int32))])) rfl (hb hby at_45)) ?_
    refine own_go (G := T10.setTop (mkF m 48 #[.val (.int p0), .val (.int p1), .val (.long v1), .second, .val (.int (1 : Int32)), .val (.int (1 : Int32)), .unset, .unset, .unset, .unset, .unset] [(.int (p1 &&& (2147483647 : Int32))), (.int (48 : Int32))])) (fun _ k => XS.iand X10.here hx rfl (hb hby at_47) rfl k) ?_
    refine own_go (G := T10.setTop (mkF m 50 #[.val (.int p0), .val (.int p1), .val (.long v1), .second, .val (.int (1 : Int32)), .val (.int (1 : Int32)), .unset, .unset, .unset, .unset, .unset] [(.int (10 : Int32)), (.int (p1 &&& (2147483647 : Int32))), (.int (48 : Int32))])) (fun _ k => XS.bipush X10.here hx rfl (hb hby at_48) k) ?_
    refine own_go (G := T10.setTop (mkF m 51 #[.val (.int p0), .val (.int p1), .val (.long v1), .second, .val (.int (1 : Int32)), .val (.int (1 : Int32)), .unset, .unset, .unset, .unset, .unset] [(.int ((p1 &&& (2147483647 : Int32)) % (10 : Int32))), (.int (48 : Int32))])) (fun _ k => iremM X10 hx rfl (hb hby at_50) rfl (by decide) k) ?_
    refine own_go (G := T10.setTop (mkF m 52 #[.val (.int p0), .val (.int p1), .val (.long v1), .second, .val (.int (1 : Int32)), .val (.int (1 : Int32)), .unset, .unset, .unset, .unset, .unset] [(.int ((48 : Int32) + ((p1 &&& (2147483647 : Int32)) % (10 : Int32))))])) (fun _ k => XS.iadd X10.here hx rfl (hb hby at_51) rfl k) ?_
    generalize hv11 : ((48 : Int32) + ((p1 &&& (2147483647 : Int32)) % (10 : Int32))) = v11
    refine own_go (G := T10.setTop (mkF m 54 #[.val (.int p0), .val (.int p1), .val (.long v1), .second, .val (.int (1 : Int32)), .val (.int (1 : Int32)), .val (.int v11), .unset, .unset, .unset, .unset] [])) (fun _ k => XS.istore X10.here hx rfl (hb hby at_52) rfl (l' := #[.val (.int p0), .val (.int p1), .val (.long v1), .second, .val (.int (1 : Int32)), .val (.int (1 : Int32)), .val (.int v11), .unset, .unset, .unset, .unset]) rfl k) ?_
    refine own_go (G := T10.setTop (mkF m 56 #[.val (.int p0), .val (.int p1), .val (.long v1), .second, .val (.int (1 : Int32)), .val (.int (1 : Int32)), .val (.int v11), .unset, .unset, .unset, .unset] [(.int v11)])) (fun _ k => XS.iload X10.here hx rfl (hb hby at_54) rfl k) ?_
    obtain ⟨_, _, ⟨T12, L12, k12, n12⟩, -, X12, ⟨Lc12, hQ12, l12, y12, z12⟩, st12⟩ := Jvm.LawKit.callS X10 hx (y := (⟨"com/example/lotear/lotear/cnab/Record", "isDigit", "(I)Z"⟩ : MethodName)) hown (mvT hZ (hw _ (List.mem_of_getElem? (i := 2) rfl))) (mvT hZ (hw _ (List.mem_of_getElem? (i := 3) rfl))) (mvT hZ (hw _ (List.mem_of_getElem? (i := 4) rfl))) (mvT hZ (hw _ (List.mem_of_getElem? (i := 5) rfl))) (by decide) (backOf (W := 0) (rm1 l Z a0 hw [] v11 h0 n0 Z0) hZ (hw _ (List.mem_of_getElem? (i := 5) rfl)) (hw _ (List.mem_of_getElem? (i := 4) rfl)) (by decide) (by decide)) (g := (mkF m 56 #[.val (.int p0), .val (.int p1), .val (.long v1), .second, .val (.int (1 : Int32)), .val (.int (1 : Int32)), .val (.int v11), .unset, .unset, .unset, .unset] [(.int v11)])) rfl (by rw [hml]; rfl) (argsL := [(.int v11)]) (rest := []) (lenOf pd0 rfl) rfl (by show 2 * 0 + _ ≤ _; exact Nat.le_of_eq rfl) (hb hby at_56) (fun _ _ => ⟨rfl, e10, (by decide : 0 + 0 ≤ _), (by decide : 0 + 0 ≤ _)⟩)
    dsimp only [Pt.U, Pt.locs, Pt.cells, Pt.slots] at X12 l12 y12 z12 st12 hQ12
    subst l12 y12 z12
    obtain ⟨rfl, Nq12, e12⟩ := hQ12
    have N12 := Fr.app N10 Nq12
    refine own_go (G := T12.setTop (mkF m 59 #[.val (.int p0), .val (.int p1), .val (.long v1), .second, .val (.int (1 : Int32)), .val (.int (1 : Int32)), .val (.int v11), .unset, .unset, .unset, .unset] [(.int (F1 v11))])) (st12) ?_
    generalize hv13 : (F1 v11) = v13
    refine own_go (G := T12.setTop (mkF m 61 #[.val (.int p0), .val (.int p1), .val (.long v1), .second, .val (.int (1 : Int32)), .val (.int (1 : Int32)), .val (.int v11), .val (.int v13), .unset, .unset, .unset] [])) (fun _ k => XS.istore X12.here hx rfl (hb hby at_59) rfl (l' := #[.val (.int p0), .val (.int p1), .val (.long v1), .second, .val (.int (1 : Int32)), .val (.int (1 : Int32)), .val (.int v11), .val (.int v13), .unset, .unset, .unset]) rfl k) ?_
    refine own_go (G := T12.setTop (mkF m 63 #[.val (.int p0), .val (.int p1), .val (.long v1), .second, .val (.int (1 : Int32)), .val (.int (1 : Int32)), .val (.int v11), .val (.int v13), .unset, .unset, .unset] [(.int (47 : Int32))])) (fun _ k => XS.bipush X12.here hx rfl (hb hby at_61) k) ?_
    obtain ⟨_, _, ⟨T14, L14, k14, n14⟩, -, X14, ⟨Lc14, hQ14, l14, y14, z14⟩, st14⟩ := Jvm.LawKit.callS X12 hx (y := (⟨"com/example/lotear/lotear/cnab/Record", "isDigit", "(I)Z"⟩ : MethodName)) hown (mvT hZ (hw _ (List.mem_of_getElem? (i := 2) rfl))) (mvT hZ (hw _ (List.mem_of_getElem? (i := 3) rfl))) (mvT hZ (hw _ (List.mem_of_getElem? (i := 4) rfl))) (mvT hZ (hw _ (List.mem_of_getElem? (i := 5) rfl))) (by decide) (backOf (W := 0) (rm1 l Z a0 hw [] (47 : Int32) h0 n0 Z0) hZ (hw _ (List.mem_of_getElem? (i := 5) rfl)) (hw _ (List.mem_of_getElem? (i := 4) rfl)) (by decide) (by decide)) (g := (mkF m 63 #[.val (.int p0), .val (.int p1), .val (.long v1), .second, .val (.int (1 : Int32)), .val (.int (1 : Int32)), .val (.int v11), .val (.int v13), .unset, .unset, .unset] [(.int (47 : Int32))])) rfl (by rw [hml]; rfl) (argsL := [(.int (47 : Int32))]) (rest := []) (lenOf pd0 rfl) rfl (by show 2 * 0 + _ ≤ _; exact Nat.le_of_eq rfl) (hb hby at_63) (fun _ _ => ⟨rfl, e12, (by decide : 0 + 0 ≤ _), (by decide : 0 + 0 ≤ _)⟩)
    dsimp only [Pt.U, Pt.locs, Pt.cells, Pt.slots] at X14 l14 y14 z14 st14 hQ14
    subst l14 y14 z14
    obtain ⟨rfl, Nq14, e14⟩ := hQ14
    have N14 := Fr.app N12 Nq14
    refine own_go (G := T14.setTop (mkF m 66 #[.val (.int p0), .val (.int p1), .val (.long v1), .second, .val (.int (1 : Int32)), .val (.int (1 : Int32)), .val (.int v11), .val (.int v13), .unset, .unset, .unset] [(.int (F1 (47 : Int32)))])) (st14) ?_
    refine own_go (G := T14.setTop (mkF m 69 #[.val (.int p0), .val (.int p1), .val (.long v1), .second, .val (.int (1 : Int32)), .val (.int (1 : Int32)), .val (.int v11), .val (.int v13), .unset, .unset, .unset] [])) (fun _ k => XS.ifNo X14.here hx rfl (hb hby at_66) rfl ((if0 _ _).trans (teq (by decide : (F1 (47 : Int32)) = (0 : Int32))).2) k) ?_
    refine own_go (G := T14.setTop (mkF m 70 #[.val (.int p0), .val (.int p1), .val (.long v1), .second, .val (.int (1 : Int32)), .val (.int (1 : Int32)), .val (.int v11), .val (.int v13), .unset, .unset, .unset] [(.int (1 : Int32))])) (fun _ k => XS.iconst X14.here hx rfl (hb hby at_69) k) ?_
    refine own_go (G := T14.setTop (mkF m 74 #[.val (.int p0), .val (.int p1), .val (.long v1), .second, .val (.int (1 : Int32)), .val (.int (1 : Int32)), .val (.int v11), .val (.int v13), .unset, .unset, .unset] [(.int (1 : Int32))])) (fun _ k => XS.goto X14.here hx rfl (pc0 := 70) (pc' := 74) rfl (hb hby at_70) (by decide) (by decide) k) ?_
    refine own_go (G := T14.setTop (mkF m 76 #[.val (.int p0), .val (.int p1), .val (.long v1), .second, .val (.int (1 : Int32)), .val (.int (1 : Int32)), .val (.int v11), .val (.int v13), .val (.int (1 : Int32)), .unset, .unset] [])) (fun _ k => XS.istore X14.here hx rfl (hb hby at_74) rfl (l' := #[.val (.int p0), .val (.int p1), .val (.long v1), .second, .val (.int (1 : Int32)), .val (.int (1 : Int32)), .val (.int v11), .val (.int v13), .val (.int (1 : Int32)), .unset, .unset]) rfl k) ?_
    refine own_go (G := T14.setTop (mkF m 78 #[.val (.int p0), .val (.int p1), .val (.long v1), .second, .val (.int (1 : Int32)), .val (.int (1 : Int32)), .val (.int v11), .val (.int v13), .val (.int (1 : Int32)), .unset, .unset] [(.int (58 : Int32))])) (fun _ k => XS.bipush X14.here hx rfl (hb hby at_76) k) ?_
    obtain ⟨_, _, ⟨T15, L15, k15, n15⟩, -, X15, ⟨Lc15, hQ15, l15, y15, z15⟩, st15⟩ := Jvm.LawKit.callS X14 hx (y := (⟨"com/example/lotear/lotear/cnab/Record", "isDigit", "(I)Z"⟩ : MethodName)) hown (mvT hZ (hw _ (List.mem_of_getElem? (i := 2) rfl))) (mvT hZ (hw _ (List.mem_of_getElem? (i := 3) rfl))) (mvT hZ (hw _ (List.mem_of_getElem? (i := 4) rfl))) (mvT hZ (hw _ (List.mem_of_getElem? (i := 5) rfl))) (by decide) (backOf (W := 0) (rm1 l Z a0 hw [] (58 : Int32) h0 n0 Z0) hZ (hw _ (List.mem_of_getElem? (i := 5) rfl)) (hw _ (List.mem_of_getElem? (i := 4) rfl)) (by decide) (by decide)) (g := (mkF m 78 #[.val (.int p0), .val (.int p1), .val (.long v1), .second, .val (.int (1 : Int32)), .val (.int (1 : Int32)), .val (.int v11), .val (.int v13), .val (.int (1 : Int32)), .unset, .unset] [(.int (58 : Int32))])) rfl (by rw [hml]; rfl) (argsL := [(.int (58 : Int32))]) (rest := []) (lenOf pd0 rfl) rfl (by show 2 * 0 + _ ≤ _; exact Nat.le_of_eq rfl) (hb hby at_78) (fun _ _ => ⟨rfl, e14, (by decide : 0 + 0 ≤ _), (by decide : 0 + 0 ≤ _)⟩)
    dsimp only [Pt.U, Pt.locs, Pt.cells, Pt.slots] at X15 l15 y15 z15 st15 hQ15
    subst l15 y15 z15
    obtain ⟨rfl, Nq15, e15⟩ := hQ15
    have N15 := Fr.app N14 Nq15
    refine own_go (G := T15.setTop (mkF m 81 #[.val (.int p0), .val (.int p1), .val (.long v1), .second, .val (.int (1 : Int32)), .val (.int (1 : Int32)), .val (.int v11), .val (.int v13), .val (.int (1 : Int32)), .unset, .unset] [(.int (F1 (58 : Int32)))])) (st15) ?_
    refine own_go (G := T15.setTop (mkF m 84 #[.val (.int p0), .val (.int p1), .val (.long v1), .second, .val (.int (1 : Int32)), .val (.int (1 : Int32)), .val (.int v11), .val (.int v13), .val (.int (1 : Int32)), .unset, .unset] [])) (fun _ k => XS.ifNo X15.here hx rfl (hb hby at_81) rfl ((if0 _ _).trans (teq (by decide : (F1 (58 : Int32)) = (0 : Int32))).2) k) ?_
    refine own_go (G := T15.setTop (mkF m 85 #[.val (.int p0), .val (.int p1), .val (.long v1), .second, .val (.int (1 : Int32)), .val (.int (1 : Int32)), .val (.int v11), .val (.int v13), .val (.int (1 : Int32)), .unset, .unset] [(.int (1 : Int32))])) (fun _ k => XS.iconst X15.here hx rfl (hb hby at_84) k) ?_
    refine own_go (G := T15.setTop (mkF m 89 #[.val (.int p0), .val (.int p1), .val (.long v1), .second, .val (.int (1 : Int32)), .val (.int (1 : Int32)), .val (.int v11), .val (.int v13), .val (.int (1 : Int32)), .unset, .unset] [(.int (1 : Int32))])) (fun _ k => XS.goto X15.here hx rfl (pc0 := 85) (pc' := 89) rfl (hb hby at_85) (by decide) (by decide) k) ?_
    refine own_go (G := T15.setTop (mkF m 91 #[.val (.int p0), .val (.int p1), .val (.long v1), .second, .val (.int (1 : Int32)), .val (.int (1 : Int32)), .val (.int v11), .val (.int v13), .val (.int (1 : Int32)), .val (.int (1 : Int32)), .unset] [])) (fun _ k => XS.istore X15.here hx rfl (hb hby at_89) rfl (l' := #[.val (.int p0), .val (.int p1), .val (.long v1), .second, .val (.int (1 : Int32)), .val (.int (1 : Int32)), .val (.int v11), .val (.int v13), .val (.int (1 : Int32)), .val (.int (1 : Int32)), .unset]) rfl k) ?_
    refine own_go (G := T15.setTop (mkF m 93 #[.val (.int p0), .val (.int p1), .val (.long v1), .second, .val (.int (1 : Int32)), .val (.int (1 : Int32)), .val (.int v11), .val (.int v13), .val (.int (1 : Int32)), .val (.int (1 : Int32)), .unset] [(.int v11)])) (fun _ k => XS.iload X15.here hx rfl (hb hby at_91) rfl k) ?_
    refine own_go (G := T15.setTop (mkF m 95 #[.val (.int p0), .val (.int p1), .val (.long v1), .second, .val (.int (1 : Int32)), .val (.int (1 : Int32)), .val (.int v11), .val (.int v13), .val (.int (1 : Int32)), .val (.int (1 : Int32)), .unset] [(.int (10 : Int32)), (.int v11)])) (fun _ k => XS.bipush X15.here hx rfl (hb hby at_93) k) ?_
    refine own_go (G := T15.setTop (mkF m 96 #[.val (.int p0), .val (.int p1), .val (.long v1), .second, .val (.int (1 : Int32)), .val (.int (1 : Int32)), .val (.int v11), .val (.int v13), .val (.int (1 : Int32)), .val (.int (1 : Int32)), .unset] [(.int (v11 - (10 : Int32)))])) (fun _ k => XS.isub X15.here hx rfl (hb hby at_95) rfl k) ?_
    obtain ⟨_, _, ⟨T16, L16, k16, n16⟩, -, X16, ⟨Lc16, hQ16, l16, y16, z16⟩, st16⟩ := Jvm.LawKit.callS X15 hx (y := (⟨"com/example/lotear/lotear/cnab/Record", "isDigit", "(I)Z"⟩ : MethodName)) hown (mvT hZ (hw _ (List.mem_of_getElem? (i := 2) rfl))) (mvT hZ (hw _ (List.mem_of_getElem? (i := 3) rfl))) (mvT hZ (hw _ (List.mem_of_getElem? (i := 4) rfl))) (mvT hZ (hw _ (List.mem_of_getElem? (i := 5) rfl))) (by decide) (backOf (W := 0) (rm1 l Z a0 hw [] (v11 - (10 : Int32)) h0 n0 Z0) hZ (hw _ (List.mem_of_getElem? (i := 5) rfl)) (hw _ (List.mem_of_getElem? (i := 4) rfl)) (by decide) (by decide)) (g := (mkF m 96 #[.val (.int p0), .val (.int p1), .val (.long v1), .second, .val (.int (1 : Int32)), .val (.int (1 : Int32)), .val (.int v11), .val (.int v13), .val (.int (1 : Int32)), .val (.int (1 : Int32)), .unset] [(.int (v11 - (10 : Int32)))])) rfl (by rw [hml]; rfl) (argsL := [(.int (v11 - (10 : Int32)))]) (rest := []) (lenOf pd0 rfl) rfl (by show 2 * 0 + _ ≤ _; exact Nat.le_of_eq rfl) (hb hby at_96) (fun _ _ => ⟨rfl, e15, (by decide : 0 + 0 ≤ _), (by decide : 0 + 0 ≤ _)⟩)
    dsimp only [Pt.U, Pt.locs, Pt.cells, Pt.slots] at X16 l16 y16 z16 st16 hQ16
    subst l16 y16 z16
    obtain ⟨rfl, Nq16, e16⟩ := hQ16
    have N16 := Fr.app N15 Nq16
    refine own_go (G := T16.setTop (mkF m 99 #[.val (.int p0), .val (.int p1), .val (.long v1), .second, .val (.int (1 : Int32)), .val (.int (1 : Int32)), .val (.int v11), .val (.int v13), .val (.int (1 : Int32)), .val (.int (1 : Int32)), .unset] [(.int (F1 (v11 - (10 : Int32))))])) (st16) ?_
    refine own_go (G := T16.setTop (mkF m 102 #[.val (.int p0), .val (.int p1), .val (.long v1), .second, .val (.int (1 : Int32)), .val (.int (1 : Int32)), .val (.int v11), .val (.int v13), .val (.int (1 : Int32)), .val (.int (1 : Int32)), .unset] [])) (fun _ k => XS.ifNo X16.here hx rfl (hb hby at_99) rfl ((if0 _ _).trans (teq (own_4 hv11 : (F1 (v11 - (10 : Int32))) = (0 : Int32))).2) k) ?_
    refine own_go (G := T16.setTop (mkF m 104 #[.val (.int p0), .val (.int p1), .val (.long v1), .second, .val (.int (1 : Int32)), .val (.int (1 : Int32)), .val (.int v11), .val (.int v13), .val (.int (1 : Int32)), .val (.int (1 : Int32)), .unset] [(.int v11)])) (fun _ k => XS.iload X16.here hx rfl (hb hby at_102) rfl k) ?_
    refine own_go (G := T16.setTop (mkF m 106 #[.val (.int p0), .val (.int p1), .val (.long v1), .second, .val (.int (1 : Int32)), .val (.int (1 : Int32)), .val (.int v11), .val (.int v13), .val (.int (1 : Int32)), .val (.int (1 : Int32)), .unset] [(.int (10 : Int32)), (.int v11)])) (fun _ k => XS.bipush X16.here hx rfl (hb hby at_104) k) ?_
    refine own_go (G := T16.setTop (mkF m 107 #[.val (.int p0), .val (.int p1), .val (.long v1), .second, .val (.int (1 : Int32)), .val (.int (1 : Int32)), .val (.int v11), .val (.int v13), .val (.int (1 : Int32)), .val (.int (1 : Int32)), .unset] [(.int (v11 + (10 : Int32)))])) (fun _ k => XS.iadd X16.here hx rfl (hb hby at_106) rfl k) ?_
    obtain ⟨_, _, ⟨T17, L17, k17, n17⟩, -, X17, ⟨Lc17, hQ17, l17, y17, z17⟩, st17⟩ := Jvm.LawKit.callS X16 hx (y := (⟨"com/example/lotear/lotear/cnab/Record", "isDigit", "(I)Z"⟩ : MethodName)) hown (mvT hZ (hw _ (List.mem_of_getElem? (i := 2) rfl))) (mvT hZ (hw _ (List.mem_of_getElem? (i := 3) rfl))) (mvT hZ (hw _ (List.mem_of_getElem? (i := 4) rfl))) (mvT hZ (hw _ (List.mem_of_getElem? (i := 5) rfl))) (by decide) (backOf (W := 0) (rm1 l Z a0 hw [] (v11 + (10 : Int32)) h0 n0 Z0) hZ (hw _ (List.mem_of_getElem? (i := 5) rfl)) (hw _ (List.mem_of_getElem? (i := 4) rfl)) (by decide) (by decide)) (g := (mkF m 107 #[.val (.int p0), .val (.int p1), .val (.long v1), .second, .val (.int (1 : Int32)), .val (.int (1 : Int32)), .val (.int v11), .val (.int v13), .val (.int (1 : Int32)), .val (.int (1 : Int32)), .unset] [(.int (v11 + (10 : Int32)))])) rfl (by rw [hml]; rfl) (argsL := [(.int (v11 + (10 : Int32)))]) (rest := []) (lenOf pd0 rfl) rfl (by show 2 * 0 + _ ≤ _; exact Nat.le_of_eq rfl) (hb hby at_107) (fun _ _ => ⟨rfl, e16, (by decide : 0 + 0 ≤ _), (by decide : 0 + 0 ≤ _)⟩)
    dsimp only [Pt.U, Pt.locs, Pt.cells, Pt.slots] at X17 l17 y17 z17 st17 hQ17
    subst l17 y17 z17
    obtain ⟨rfl, Nq17, e17⟩ := hQ17
    have N17 := Fr.app N16 Nq17
    refine own_go (G := T17.setTop (mkF m 110 #[.val (.int p0), .val (.int p1), .val (.long v1), .second, .val (.int (1 : Int32)), .val (.int (1 : Int32)), .val (.int v11), .val (.int v13), .val (.int (1 : Int32)), .val (.int (1 : Int32)), .unset] [(.int (F1 (v11 + (10 : Int32))))])) (st17) ?_
    refine own_go (G := T17.setTop (mkF m 113 #[.val (.int p0), .val (.int p1), .val (.long v1), .second, .val (.int (1 : Int32)), .val (.int (1 : Int32)), .val (.int v11), .val (.int v13), .val (.int (1 : Int32)), .val (.int (1 : Int32)), .unset] [])) (fun _ k => XS.ifNo X17.here hx rfl (hb hby at_110) rfl ((if0 _ _).trans (teq (own_5 hv11 : (F1 (v11 + (10 : Int32))) = (0 : Int32))).2) k) ?_
    refine own_go (G := T17.setTop (mkF m 114 #[.val (.int p0), .val (.int p1), .val (.long v1), .second, .val (.int (1 : Int32)), .val (.int (1 : Int32)), .val (.int v11), .val (.int v13), .val (.int (1 : Int32)), .val (.int (1 : Int32)), .unset] [(.int (1 : Int32))])) (fun _ k => XS.iconst X17.here hx rfl (hb hby at_113) k) ?_
    refine own_go (G := T17.setTop (mkF m 118 #[.val (.int p0), .val (.int p1), .val (.long v1), .second, .val (.int (1 : Int32)), .val (.int (1 : Int32)), .val (.int v11), .val (.int v13), .val (.int (1 : Int32)), .val (.int (1 : Int32)), .unset] [(.int (1 : Int32))])) (fun _ k => XS.goto X17.here hx rfl (pc0 := 114) (pc' := 118) rfl (hb hby at_114) (by decide) (by decide) k) ?_
    refine own_go (G := T17.setTop (mkF m 120 #[.val (.int p0), .val (.int p1), .val (.long v1), .second, .val (.int (1 : Int32)), .val (.int (1 : Int32)), .val (.int v11), .val (.int v13), .val (.int (1 : Int32)), .val (.int (1 : Int32)), .val (.int (1 : Int32))] [])) (fun _ k => XS.istore X17.here hx rfl (hb hby at_118) rfl (l' := #[.val (.int p0), .val (.int p1), .val (.long v1), .second, .val (.int (1 : Int32)), .val (.int (1 : Int32)), .val (.int v11), .val (.int v13), .val (.int (1 : Int32)), .val (.int (1 : Int32)), .val (.int (1 : Int32))]) rfl k) ?_
    refine own_go (G := T17.setTop (mkF m 122 #[.val (.int p0), .val (.int p1), .val (.long v1), .second, .val (.int (1 : Int32)), .val (.int (1 : Int32)), .val (.int v11), .val (.int v13), .val (.int (1 : Int32)), .val (.int (1 : Int32)), .val (.int (1 : Int32))] [(.int (1 : Int32))])) (fun _ k => XS.iload X17.here hx rfl (hb hby at_120) rfl k) ?_
    refine own_go (G := T17.setTop (mkF m 125 #[.val (.int p0), .val (.int p1), .val (.long v1), .second, .val (.int (1 : Int32)), .val (.int (1 : Int32)), .val (.int v11), .val (.int v13), .val (.int (1 : Int32)), .val (.int (1 : Int32)), .val (.int (1 : Int32))] [])) (fun _ k => XS.ifNo X17.here hx rfl (hb hby at_122) rfl ((if0 _ _).trans (feq (by decide : ¬ ((1 : Int32) = (0 : Int32)))).1) k) ?_
    refine own_go (G := T17.setTop (mkF m 127 #[.val (.int p0), .val (.int p1), .val (.long v1), .second, .val (.int (1 : Int32)), .val (.int (1 : Int32)), .val (.int v11), .val (.int v13), .val (.int (1 : Int32)), .val (.int (1 : Int32)), .val (.int (1 : Int32))] [(.int v13)])) (fun _ k => XS.iload X17.here hx rfl (hb hby at_125) rfl k) ?_
    refine own_go (G := T17.setTop (mkF m 130 #[.val (.int p0), .val (.int p1), .val (.long v1), .second, .val (.int (1 : Int32)), .val (.int (1 : Int32)), .val (.int v11), .val (.int v13), .val (.int (1 : Int32)), .val (.int (1 : Int32)), .val (.int (1 : Int32))] [])) (fun _ k => XS.ifNo X17.here hx rfl (hb hby at_127) rfl ((if0 _ _).trans (feq (own_3 hv11 hv13 : ¬ (v13 = (0 : Int32)))).1) k) ?_
    refine own_go (G := T17.setTop (mkF m 132 #[.val (.int p0), .val (.int p1), .val (.long v1), .second, .val (.int (1 : Int32)), .val (.int (1 : Int32)), .val (.int v11), .val (.int v13), .val (.int (1 : Int32)), .val (.int (1 : Int32)), .val (.int (1 : Int32))] [(.int (1 : Int32))])) (fun _ k => XS.iload X17.here hx rfl (hb hby at_130) rfl k) ?_
    refine own_go (G := T17.setTop (mkF m 135 #[.val (.int p0), .val (.int p1), .val (.long v1), .second, .val (.int (1 : Int32)), .val (.int (1 : Int32)), .val (.int v11), .val (.int v13), .val (.int (1 : Int32)), .val (.int (1 : Int32)), .val (.int (1 : Int32))] [])) (fun _ k => XS.ifNo X17.here hx rfl (hb hby at_132) rfl ((if0 _ _).trans (feq (by decide : ¬ ((1 : Int32) = (0 : Int32)))).1) k) ?_
    refine own_go (G := T17.setTop (mkF m 137 #[.val (.int p0), .val (.int p1), .val (.long v1), .second, .val (.int (1 : Int32)), .val (.int (1 : Int32)), .val (.int v11), .val (.int v13), .val (.int (1 : Int32)), .val (.int (1 : Int32)), .val (.int (1 : Int32))] [(.int (1 : Int32))])) (fun _ k => XS.iload X17.here hx rfl (hb hby at_135) rfl k) ?_
    refine own_go (G := T17.setTop (mkF m 140 #[.val (.int p0), .val (.int p1), .val (.long v1), .second, .val (.int (1 : Int32)), .val (.int (1 : Int32)), .val (.int v11), .val (.int v13), .val (.int (1 : Int32)), .val (.int (1 : Int32)), .val (.int (1 : Int32))] [])) (fun _ k => XS.ifNo X17.here hx rfl (hb hby at_137) rfl ((if0 _ _).trans (feq (by decide : ¬ ((1 : Int32) = (0 : Int32)))).1) k) ?_
    refine own_go (G := T17.setTop (mkF m 142 #[.val (.int p0), .val (.int p1), .val (.long v1), .second, .val (.int (1 : Int32)), .val (.int (1 : Int32)), .val (.int v11), .val (.int v13), .val (.int (1 : Int32)), .val (.int (1 : Int32)), .val (.int (1 : Int32))] [(.int (1 : Int32))])) (fun _ k => XS.iload X17.here hx rfl (hb hby at_140) rfl k) ?_
    refine own_go (G := T17.setTop (mkF m 145 #[.val (.int p0), .val (.int p1), .val (.long v1), .second, .val (.int (1 : Int32)), .val (.int (1 : Int32)), .val (.int v11), .val (.int v13), .val (.int (1 : Int32)), .val (.int (1 : Int32)), .val (.int (1 : Int32))] [])) (fun _ k => XS.ifNo X17.here hx rfl (hb hby at_142) rfl ((if0 _ _).trans (feq (by decide : ¬ ((1 : Int32) = (0 : Int32)))).1) k) ?_
    refine own_go (G := T17.setTop (mkF m 146 #[.val (.int p0), .val (.int p1), .val (.long v1), .second, .val (.int (1 : Int32)), .val (.int (1 : Int32)), .val (.int v11), .val (.int v13), .val (.int (1 : Int32)), .val (.int (1 : Int32)), .val (.int (1 : Int32))] [(.int (1 : Int32))])) (fun _ k => XS.iconst X17.here hx rfl (hb hby at_145) k) ?_
    refine own_go (G := T17.setTop (mkF m 150 #[.val (.int p0), .val (.int p1), .val (.long v1), .second, .val (.int (1 : Int32)), .val (.int (1 : Int32)), .val (.int v11), .val (.int v13), .val (.int (1 : Int32)), .val (.int (1 : Int32)), .val (.int (1 : Int32))] [(.int (1 : Int32))])) (fun _ k => XS.goto X17.here hx rfl (pc0 := 146) (pc' := 150) rfl (hb hby at_146) (by decide) (by decide) k) ?_
    exact own_ret1 X17 hx Bd.returns (hb hby at_150) Bd.notSynchronized (by decide) (by decide) ⟨rfl, N17⟩
set_option maxRecDepth 65536 in
set_option maxHeartbeats 40000000 in
theorem comes_1 {Post : Tables → Env → Array Value → State → Outcome → State → Prop} (hpost : ∀ tb e args s v u, (limb_1_1.after args s (.returned v) u = true ∧ limb_1_2.after args s (.returned v) u = true ∧ True) → FrameEnd s (.returned v) u (Jvm.fieldLocs frame_1_writes args s ++ Jvm.arrayLocs frame_1_arrays args s ++ Jvm.staticLocs frame_1_statics s) 0 0 → Post tb e args s (.returned v) u) :
    ArmFor flags0 classFile x code maxLocals ret World_1 tables_1 room_1 Calls_1 rest_1 Pre_1 Post := by
  intro l hfl _ _ p e ha hc hk s m args below hf hA hF happ hP
  obtain ⟨hcalls, hrest, hpre⟩ := hP
  obtain ⟨-, -, -, hnamed, -, -, -, hat⟩ := (Spec.applies_iff hf).mp happ
  obtain ⟨hg, hn⟩ := and_e (Cond.before_iff.mp (show (Jvm.Cond.and given_1 narrow_1).before args s = true from hpre))
  obtain ⟨gc, g0⟩ := and_e hg
  obtain ⟨ga0, g1⟩ := and_e g0
  obtain ⟨w0, w1, rfl⟩ : ∃ w0 w1 : Value, args = #[w0, w1] := by
    have hs : args.size = 2 := by simpa [Cond.value, given_1] using gc
    obtain ⟨L⟩ := args
    match L, hs with
    | [w0, w1], _ => exact ⟨w0, w1, rfl⟩
  have hw := fun d (hd : d ∈ tables_1) => atoms_spec (ws := Jvm.Cond.code x code maxLocals ret :: tables_1) hat d (List.mem_cons_of_mem _ hd)
  obtain ⟨i0, ei0⟩ := is_v ga0
  obtain rfl : w0 = (.int i0) := Option.some.inj ei0
  obtain ⟨i1, ei1⟩ := is_v g1
  obtain rfl : w1 = (.int i1) := Option.some.inj ei1
  obtain ⟨n, o, h1, h2, h3, _, L, rfl, ⟨rfl, N⟩, hq⟩ := rm0 l s _ hw tables_1 i0 i1 s.heap s.heap.size (Nat.le_refl _) p e ha hc hk s m _ below hf ((Spec.applies_iff_loose hf).mp happ).1 ⟨rfl, State.Warmed39.refl s, rfl⟩ trivial
  refine ⟨n, _, h1, h2, h3, hpost _ _ _ _ _ _ ⟨Cond.after_iff.mpr rfl, Cond.after_iff.mpr (eq_i res_at (Term.int_eval (1)) rfl), trivial⟩ ⟨hq.1, hq.2.1, (hq.2.2.sift fun y hy => Or.inr (N y hy)).mono (by decide) (by decide)⟩⟩
theorem main_1_1 : Claimed_1_1 := comes_1 fun _ _ _ _ _ _ h hF => ⟨h.1, hF⟩
theorem main_1_2 : Claimed_1_2 := comes_1 fun _ _ _ _ _ _ h hF => ⟨h.2.1, hF⟩
end Jvm.Pilot.@@N@@
namespace Jvm.Pilot.@@N@@
open Jvm Jvm.ClassFile Sem Op Lib Jvm.Free Jvm.Stand Jvm.Pilot.@@N@@.Jvm.D
/-! MADE BY PROGRAM (witnessworld.py) out of the Statement's table words and the real class files: 9 classes; the members and pool entries that the words name. The judged class is class 1, her method 1. -/
namespace start1
open Jvm.ClassFile
def u (s : String) : CpInfo := .utf8 (stringToUtf16 s)
/-- a pool by its gaps: so many unusable entries, then the entry; so many at the end -/
def gap : Nat → List CpInfo → List CpInfo
  | 0, r => r
  | n + 1, r => .unusable :: gap n r
def poolList (es : List (Nat × CpInfo)) (last : Nat) : List CpInfo := es.foldr (fun e r => gap e.1 (e.2 :: r)) (gap last [])
def pool (es : List (Nat × CpInfo)) (last : Nat) : Array CpInfo := ⟨poolList es last⟩
def fileOf (pool : Array CpInfo) (this : Nat) (attrs : Array Attribute := #[]) (ms : Array MethodInfo := #[]) (fl : Nat := 33) (sup : Nat := 0) (ifs : Array Nat := #[]) (fds : Array FieldInfo := #[]) : ClassFile where
  minorVersion := 0
  majorVersion := 65
  constantPool := pool
  accessFlags := fl
  thisClass := this
  superClass := sup
  interfaces := ifs
  fields := fds
  methods := ms
  attributes := attrs
def plain (name : String) (sup : Option ClassId) : Class where
  name := name
  kind := .ordinary
  loader := none
  accessFlags := 33
  super := sup
  interfaces := #[]
  cf := none
  fields := #[]
  methods := #[]
  instanceTypes := #[]
  staticTypes := #[]
  resolved := #[]
  callSites := []
  init := .initialized
  statics := none
  mirror := none

def pool0 : Array CpInfo := pool [(5, u "<init>"), (0, u "()V"), (1, .class_ 10), (1, u "java/lang/Object")] 113

def k0m0 : Method := { name := "<init>", desc := "()V", sig := { parameters := [], returnType := none }, accessFlags := 1, code := none }
/-- java/lang/Object -/
def k0 : Class := { plain "java/lang/Object" none with
  accessFlags := 33
  interfaces := #[]
  cf := some (fileOf pool0 8 #[] #[{ accessFlags := 1, nameIndex := 5, descriptorIndex := 6, attributes := #[] }] 33 0 #[] #[])
  fields := #[]
  methods := #[k0m0]
  instanceTypes := #[]
  staticTypes := #[]
  resolved := Array.replicate 124 none
  statics := none }

def pool1 : Array CpInfo := pool [(2, .class_ 4), (1, u "java/lang/Object"), (0, u "<init>"), (0, u "()V"), (0, .long 48), (1, .long 9), (1, .methodref 12 13), (0, .class_ 14), (0, .nameAndType 15 16), (0, u "com/example/lotear/lotear/cnab/Record"), (0, u "isDigit"), (0, u "(I)Z"), (0, .integer 2147483647), (0, .class_ 19), (0, u "com/example/lotear/lotear/cnab/RecordIsDigitPinLaw"), (2, u "law"), (0, u "(II)Z")] 3

def k1m0 : Method := { name := "<init>", desc := "()V", sig := { parameters := [], returnType := none }, accessFlags := 2, code := none }
def k1c1 : Code := { maxStack := 6, maxLocals := 11, code := code, exceptionTable := #[], attributes := #[] }
def k1m1 : Method := { name := "law", desc := "(II)Z", sig := { parameters := [.int, .int], returnType := some .boolean }, accessFlags := 9, code := some k1c1 }
/-- com/example/lotear/lotear/cnab/RecordIsDigitPinLaw -/
def k1 : Class := { plain "com/example/lotear/lotear/cnab/RecordIsDigitPinLaw" (some 0) with
  accessFlags := 49
  interfaces := #[]
  cf := some (fileOf pool1 18 #[] #[{ accessFlags := 2, nameIndex := 5, descriptorIndex := 6, attributes := #[] }, { accessFlags := 9, nameIndex := 22, descriptorIndex := 23, attributes := #[] }] 49 2 #[] #[])
  fields := #[]
  methods := #[k1m0, k1m1]
  instanceTypes := #[]
  staticTypes := #[]
  resolved := Array.replicate 27 none
  statics := none }

def pool2 : Array CpInfo := pool [(14, .class_ 16), (1, u "com/example/lotear/lotear/cnab/Record"), (3, .class_ 22), (1, u "java/lang/Object"), (3, u "line"), (0, u "I"), (2, u "columns"), (0, u "[B"), (2, u "length"), (2, u "ending"), (0, u "Lcom/example/lotear/lotear/cnab/Record$LineEnding;"), (69, u "KINDS"), (127, u "isDigit"), (0, u "(I)Z"), (7, u "BLANK"), (0, u "C"), (2, u "DATE_WIDTH"), (1, u "MOST_LONG_DIGITS"), (1, u "SHORT_DATE_WIDTH"), (1, u "SHORT_DATE_CENTURY"), (1, u "DIGITS"), (1, u "CAPITALS"), (1, u "BLANKS"), (1, u "OTHERS"), (26, .class_ 291), (0, u "com/example/lotear/lotear/cnab/Record$LineEnding")] 26

def k2c0 : Code := { maxStack := 2, maxLocals := 1, code := prog_25_method_34_code, exceptionTable := #[], attributes := #[] }
def k2m0 : Method := { name := "isDigit", desc := "(I)Z", sig := { parameters := [.int], returnType := some .boolean }, accessFlags := 8, code := some k2c0 }
/-- com/example/lotear/lotear/cnab/Record -/
def k2 : Class := { plain "com/example/lotear/lotear/cnab/Record" (some 0) with
  accessFlags := 49
  interfaces := #[]
  cf := some (fileOf pool2 14 #[.nestMembers #[290]] #[{ accessFlags := 8, nameIndex := 236, descriptorIndex := 237, attributes := #[] }] 49 20 #[] #[{ accessFlags := 26, nameIndex := 245, descriptorIndex := 246, attributes := #[] }, { accessFlags := 26, nameIndex := 249, descriptorIndex := 27, attributes := #[] }, { accessFlags := 26, nameIndex := 251, descriptorIndex := 27, attributes := #[] }, { accessFlags := 24, nameIndex := 253, descriptorIndex := 27, attributes := #[] }, { accessFlags := 24, nameIndex := 255, descriptorIndex := 27, attributes := #[] }, { accessFlags := 24, nameIndex := 257, descriptorIndex := 27, attributes := #[] }, { accessFlags := 24, nameIndex := 259, descriptorIndex := 27, attributes := #[] }, { accessFlags := 24, nameIndex := 261, descriptorIndex := 27, attributes := #[] }, { accessFlags := 24, nameIndex := 263, descriptorIndex := 27, attributes := #[] }, { accessFlags := 26, nameIndex := 108, descriptorIndex := 31, attributes := #[] }, { accessFlags := 18, nameIndex := 26, descriptorIndex := 27, attributes := #[] }, { accessFlags := 18, nameIndex := 30, descriptorIndex := 31, attributes := #[] }, { accessFlags := 18, nameIndex := 34, descriptorIndex := 27, attributes := #[] }, { accessFlags := 18, nameIndex := 37, descriptorIndex := 38, attributes := #[] }])
  fields := #[{ name := "BLANK", type := .char, accessFlags := 26, slot := 0, constantValue := 0 }, { name := "DATE_WIDTH", type := .int, accessFlags := 26, slot := 1, constantValue := 0 }, { name := "MOST_LONG_DIGITS", type := .int, accessFlags := 26, slot := 2, constantValue := 0 }, { name := "SHORT_DATE_WIDTH", type := .int, accessFlags := 24, slot := 3, constantValue := 0 }, { name := "SHORT_DATE_CENTURY", type := .int, accessFlags := 24, slot := 4, constantValue := 0 }, { name := "DIGITS", type := .int, accessFlags := 24, slot := 5, constantValue := 0 }, { name := "CAPITALS", type := .int, accessFlags := 24, slot := 6, constantValue := 0 }, { name := "BLANKS", type := .int, accessFlags := 24, slot := 7, constantValue := 0 }, { name := "OTHERS", type := .int, accessFlags := 24, slot := 8, constantValue := 0 }, { name := "KINDS", type := (.array .byte), accessFlags := 26, slot := 9, constantValue := 0 }, { name := "line", type := .int, accessFlags := 18, slot := 0, constantValue := 0 }, { name := "columns", type := (.array .byte), accessFlags := 18, slot := 1, constantValue := 0 }, { name := "length", type := .int, accessFlags := 18, slot := 2, constantValue := 0 }, { name := "ending", type := (.object "com/example/lotear/lotear/cnab/Record$LineEnding"), accessFlags := 18, slot := 3, constantValue := 0 }]
  methods := #[k2m0]
  instanceTypes := #[.int, (.array .byte), .int, (.object "com/example/lotear/lotear/cnab/Record$LineEnding")]
  staticTypes := #[.char, .int, .int, .int, .int, .int, .int, .int, .int, (.array .byte)]
  resolved := Array.replicate 318 none
  statics := none }

def pool3 : Array CpInfo := pool [(1, u "java/lang/Cloneable"), (0, .class_ 1), (0, u "java/lang/Object"), (0, .class_ 3)] 3

/-- java/lang/Cloneable -/
def k3 : Class := { plain "java/lang/Cloneable" (some 0) with
  accessFlags := 1537
  interfaces := #[]
  cf := some (fileOf pool3 2 #[] #[] 1537 4 #[] #[])
  fields := #[]
  methods := #[]
  instanceTypes := #[]
  staticTypes := #[]
  resolved := Array.replicate 8 none
  statics := none }

def pool4 : Array CpInfo := pool [(1, u "java/io/Serializable"), (0, .class_ 1), (0, u "java/lang/Object"), (0, .class_ 3)] 3

/-- java/io/Serializable -/
def k4 : Class := { plain "java/io/Serializable" (some 0) with
  accessFlags := 1537
  interfaces := #[]
  cf := some (fileOf pool4 2 #[] #[] 1537 4 #[] #[])
  fields := #[]
  methods := #[]
  instanceTypes := #[]
  staticTypes := #[]
  resolved := Array.replicate 8 none
  statics := none }

/-- the primitive byte -/
def k5 : Class := { plain "byte" none with kind := .primitive 'B', accessFlags := 0x411 }
/-- [B -/
def k6 : Class := { plain "[B" (some 0) with kind := .array 5 .byte, interfaces := #[3, 4], accessFlags := 1041 }

/-- the primitive int -/
def k7 : Class := { plain "int" none with kind := .primitive 'I', accessFlags := 0x411 }
/-- [I -/
def k8 : Class := { plain "[I" (some 0) with kind := .array 7 .int, interfaces := #[3, 4], accessFlags := 1041 }

def heap : Heap := #[]
def classes : Array Class := #[k0, k1, k2, k3, k4, k5, k6, k7, k8]
def interned : List (Array UInt16 × Addr) := []
def slotsUsed : Nat := 0
def theMethod : MethodId := ⟨1, 1⟩
def args0 : Array Value := #[.int 5, .int 5]
def aboutOver (below : List Frame) : State where
  vm := { classes := classes, interned := interned.toArray }
  heap := heap
  slotsUsed := slotsUsed
  threads := #[{ frames := .invoking theMethod args0 :: below }]
def below0 : List Frame := [.native { method := ⟨0, 0⟩, args := #[] }]
def about1 : State := aboutOver below0
def p0 : Program := .bare "" "" ""
def e0 : Env := launch0.env 0 0 0
theorem w_frames : about1.frames = Frame.invoking theMethod args0 :: below0 := rfl
set_option maxRecDepth 65536 in
theorem w_args : argsFit about1.vm theMethod args0 = true := by decide +kernel
set_option maxRecDepth 65536 in
theorem w_heap : heapFits about1 = true := by decide +kernel
set_option maxRecDepth 65536 in
theorem w_runnable : about1.curStatus? = some .runnable := by decide +kernel
set_option maxRecDepth 65536 in
theorem w_alone : about1.alone = true := by decide +kernel
set_option maxRecDepth 65536 in
theorem w_named : about1.methodNamed? x = some theMethod := by decide +kernel
set_option maxRecDepth 65536 in
theorem w_hears : about1.hears theMethod below0 = true := by decide +kernel
set_option maxRecDepth 65536 in
theorem w_ripe : about1.ripe theMethod args0 below0 = true := by decide +kernel
theorem w_running : about1.status = .running := rfl
set_option maxRecDepth 65536 in
theorem w_room : about1.hasRoom e0.platform room_1 = true :=
  launch0.hasRoom_least _ room_1 (by decide +kernel) (by decide +kernel) (by decide +kernel) (by decide +kernel) (by decide +kernel) (by decide +kernel)
theorem allAtoms_all (ts : List Jvm.Cond) (a : Array Jvm.Value) (st : Jvm.State) : (allAtoms ts).before a st = ts.all (fun c => c.before a st) := by
  induction ts with
  | nil => rfl
  | cons c t ih =>
    show (Jvm.Cond.and c (allAtoms t)).before a st = _
    rw [Jvm.Cond.before_and, ih, List.all_cons]
def words1 : List Jvm.Cond := Jvm.Cond.code x code maxLocals ret :: tables_1
/-- a 'code' word, met by the world's own term for the bytes: nothing is compared byte by byte -/
theorem code_word {y : MethodName} {bytes : ByteArray} {mx : Nat} {rt : Option FieldType} {a : Array Value} {s : State} {m : MethodId} {meth : Method} {c : Code} (h1 : s.methodNamed? y = some m) (h2 : s.vm.method? m = some meth) (h3 : meth.code = some c) (h4 : c.code = bytes)
    (h5 : (c.maxLocals == mx && c.exceptionTable.isEmpty && decide (c.maxStack ≤ mostOperands) && decide (meth.sig.returnType = rt) && !meth.locks && decide (parseMethodDescriptor y.desc = some meth.sig)) = true) : (Jvm.Cond.code y bytes mx rt).before a s = true := by
  simp only [Bool.and_eq_true, beq_iff_eq, Bool.not_eq_true', decide_eq_true_eq] at h5
  obtain ⟨⟨⟨⟨⟨g1, g2⟩, g3⟩, g4⟩, g5⟩, g6⟩ := h5
  simp [Cond.before, Cond.holds, Cond.value, h1, h2, h3, h4, g1, g2, g3, g4, g5, g6]
def isCode : Jvm.Cond → Bool
  | .code _ _ _ _ => true
  | _ => false
theorem all_split {L : List Jvm.Cond} {P : Jvm.Cond → Bool} (h1 : L.all (fun c => isCode c || P c) = true) (h2 : ∀ c ∈ L.filter isCode, P c = true) : L.all P = true := by
  refine List.all_eq_true.mpr fun c hc => ?_
  have h := List.all_eq_true.mp h1 c hc
  rcases Bool.eq_false_or_eq_true (isCode c) with hi | hi
  · exact h2 c (List.mem_filter.mpr ⟨hc, hi⟩)
  · simpa [hi] using h
set_option maxRecDepth 65536 in
theorem w_c0 : (Jvm.Cond.code x code maxLocals ret).before args0 about1 = true := code_word (m := ⟨1, 1⟩) (meth := k1m1) (c := k1c1) (by decide +kernel) rfl rfl rfl (by decide +kernel)
set_option maxRecDepth 65536 in
theorem w_c1 : (Jvm.Cond.code ({ cls := "com/example/lotear/lotear/cnab/Record", name := "isDigit", desc := "(I)Z" } : Jvm.MethodName) prog_25_method_34_code (1 : Nat) (Option.some Jvm.ClassFile.FieldType.boolean)).before args0 about1 = true := code_word (m := ⟨2, 0⟩) (meth := k2m0) (c := k2c0) (by decide +kernel) rfl rfl rfl (by decide +kernel)
def codes1 : List Jvm.Cond := [Jvm.Cond.code x code maxLocals ret, Jvm.Cond.code ({ cls := "com/example/lotear/lotear/cnab/Record", name := "isDigit", desc := "(I)Z" } : Jvm.MethodName) prog_25_method_34_code (1 : Nat) (Option.some Jvm.ClassFile.FieldType.boolean)]
set_option maxRecDepth 65536 in
theorem codes_eq : words1.filter isCode = codes1 := rfl
theorem w_codes : ∀ c ∈ words1.filter isCode, c.before args0 about1 = true := by
  rw [codes_eq]
  intro c hc
  simp only [codes1, List.mem_cons, List.not_mem_nil, or_false] at hc
  rcases hc with rfl | rfl
  · exact w_c0
  · exact w_c1
set_option maxRecDepth 65536 in
theorem w_t1 : words1.all (fun c => isCode c || c.before args0 about1) = true := by decide +kernel
theorem w_tables : (allAtoms (Jvm.Cond.code x code maxLocals ret :: tables_1)).before args0 about1 = true := by
  rw [allAtoms_all]
  show words1.all (fun c => c.before args0 about1) = true
  refine all_split ?_ w_codes
  rw [w_t1]
set_option maxRecDepth 65536 in
theorem w_case : (Jvm.Cond.and given_1 narrow_1).before args0 about1 = true := by decide +kernel
theorem w_applies : (headSpec (Jvm.Cond.code x code maxLocals ret :: tables_1) room_1).applies x e0.platform about1 = true :=
  (Spec.applies_iff w_frames).mpr ⟨w_running, w_runnable, w_alone, w_named, w_hears, w_ripe, w_room, w_tables⟩
theorem atStart : AtStart classFile x code maxLocals ret World_1 tables_1 room_1 Calls_1 rest_1 Pre_1 launch0 p0 e0 about1 theMethod args0 below0 :=
  ⟨lists_1, trivial, launch0.admits_env _ _ _, launch0.least_env, fairChoices_fair.cas, fairChoices_fair.clock, w_frames, w_args, w_heap, w_applies, trivial, trivial, w_case⟩
end start1
theorem witness_1 : WitnessClaimed_1 := ⟨start1.p0, start1.e0, start1.about1, start1.theMethod, start1.args0, start1.below0, start1.atStart⟩
end Jvm.Pilot.@@N@@
