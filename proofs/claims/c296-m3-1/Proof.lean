import JvmDerived
import JvmDerived.Pilot.@@N@@Statement
import JvmDerived.Pilot.@@N@@Code
set_option linter.unusedVariables false
set_option linter.unusedSimpArgs false
namespace Jvm.Pilot.@@N@@
open Jvm Jvm.ClassFile Sem Op Lib Jvm.Free Jvm.Stand Jvm.LawKit Jvm.RoadKit Bundle Jvm.Pilot.@@N@@.Jvm.D
/-- the run from F ends, with an outcome and a state that Φ takes -/
def own_Goes (p : Program) (e : Env) (below : List Frame) (Φ : Outcome → State → Prop) (F : State) : Prop :=
  ∃ s₂ o, Steps p.tables e below F s₂ ∧ s₂.status = .running ∧ Ended s₂ below o ∧ Φ o s₂
theorem own_go {p : Program} {e : Env} {below : List Frame} {Φ : Outcome → State → Prop} {F G : State}
    (k : ∀ t, Steps p.tables e below G t → Steps p.tables e below F t) (h : own_Goes p e below Φ G) : own_Goes p e below Φ F := by
  obtain ⟨s₂, o, h1, h2⟩ := h
  exact ⟨s₂, o, k _ h1, h2⟩
/-- what a contract says of the end -/
def own_End (s : State) (Q : Option Value → Heap → List Loc → Prop) (k n : Nat) (o : Outcome) (U' : State) : Prop :=
  ∃ v L, o = .returned v ∧ Q v U'.heap L ∧ FrameEnd s o U' L k n
/-- a value is returned, the heap is as it was -/
def own_Same (w : Value) (h0 : Heap) (n0 : Nat) (v : Option Value) (h : Heap) (L : List Loc) : Prop := v = some w ∧ Fr n0 L ∧ h = h0
/-- nothing is returned, the heap is as it was -/
def own_SameV (h0 : Heap) (n0 : Nat) (v : Option Value) (h : Heap) (L : List Loc) : Prop := v = none ∧ Fr n0 L ∧ h = h0
section Own
variable {p : Program} {l : Launch} {e : Env} {R : Room} {s : State} {m : MethodId} {args : Array Value} {below : List Frame} {meth : Method} {c : Code} {T : State} {locs : List Loc} {cells slots : Nat}
theorem own_ret (X : Stand p l e R s m args below meth c T locs cells slots) (hx : p.tables.exec = Jvm.exec) {pc : Nat} {Ls : Array Slot} {w : Value} {t : FieldType} {i : Instr} {rest : List Value} (hret : meth.sig.returnType = some t) (hn : narrow t w = w)
    (hi : (i = .ireturn ∧ (t = .int ∨ t = .boolean ∨ t = .byte ∨ t = .char ∨ t = .short) ∧ ∃ z, w = .int z) ∨ (i = .lreturn ∧ t = .long ∧ ∃ z, w = .long z) ∨ (i = .dreturn ∧ t = .double ∧ ∃ z, w = .double z) ∨ (i = .freturn ∧ t = .float ∧ ∃ z, w = .float z) ∨ (i = .areturn ∧ t.isReference = true ∧ w.isRef = true))
    (hd : decode c.code pc = .ok (i, 1)) (hlk : meth.locks = false) {Q : Option Value → Heap → List Loc → Prop} {k n : Nat} (h1 : cells ≤ k) (h2 : slots ≤ n) (hQ : Q (some w) T.heap locs) :
    own_Goes p e below (own_End s Q k n) (T.setTop (mkF m pc Ls (w :: rest))) := by
  obtain ⟨fs, hr, hrun, hended, hW, hsame⟩ := X.leave (v := some w) (fun h => by rw [hret] at h; cases h) hlk
  exact ⟨_, _, retOut X hx hret hn hi hd hr, hrun, hended, _, _, rfl, hQ, ⟨_, rfl⟩, hW, hsame.mono h1 h2⟩
theorem own_retI (X : Stand p l e R s m args below meth c T locs cells slots) (hx : p.tables.exec = Jvm.exec) {pc : Nat} {Ls : Array Slot} {z : Int32} {rest : List Value} (hret : meth.sig.returnType = some .int)
    (hd : decode c.code pc = .ok (.ireturn, 1)) (hlk : meth.locks = false) {Q : Option Value → Heap → List Loc → Prop} {k n : Nat} (h1 : cells ≤ k) (h2 : slots ≤ n) (hQ : Q (some (.int z)) T.heap locs) :
    own_Goes p e below (own_End s Q k n) (T.setTop (mkF m pc Ls (.int z :: rest))) := own_ret X hx hret rfl (Or.inl ⟨rfl, Or.inl rfl, z, rfl⟩) hd hlk h1 h2 hQ
theorem own_retJ (X : Stand p l e R s m args below meth c T locs cells slots) (hx : p.tables.exec = Jvm.exec) {pc : Nat} {Ls : Array Slot} {z : Int64} {rest : List Value} (hret : meth.sig.returnType = some .long)
    (hd : decode c.code pc = .ok (.lreturn, 1)) (hlk : meth.locks = false) {Q : Option Value → Heap → List Loc → Prop} {k n : Nat} (h1 : cells ≤ k) (h2 : slots ≤ n) (hQ : Q (some (.long z)) T.heap locs) :
    own_Goes p e below (own_End s Q k n) (T.setTop (mkF m pc Ls (.long z :: rest))) := own_ret X hx hret rfl (Or.inr (Or.inl ⟨rfl, rfl, z, rfl⟩)) hd hlk h1 h2 hQ
theorem own_retB (X : Stand p l e R s m args below meth c T locs cells slots) (hx : p.tables.exec = Jvm.exec) {pc : Nat} {Ls : Array Slot} {z : Int32} {rest : List Value} (hret : meth.sig.returnType = some .boolean) (hz : z = 0 ∨ z = 1)
    (hd : decode c.code pc = .ok (.ireturn, 1)) (hlk : meth.locks = false) {Q : Option Value → Heap → List Loc → Prop} {k n : Nat} (h1 : cells ≤ k) (h2 : slots ≤ n) (hQ : Q (some (.int z)) T.heap locs) :
    own_Goes p e below (own_End s Q k n) (T.setTop (mkF m pc Ls (.int z :: rest))) := own_ret X hx hret (by rcases hz with rfl | rfl <;> rfl) (Or.inl ⟨rfl, Or.inr (Or.inl rfl), z, rfl⟩) hd hlk h1 h2 hQ
theorem own_ret1 (X : Stand p l e R s m args below meth c T locs cells slots) (hx : p.tables.exec = Jvm.exec) {pc : Nat} {Ls : Array Slot} {rest : List Value} (hret : meth.sig.returnType = some .boolean)
    (hd : decode c.code pc = .ok (.ireturn, 1)) (hlk : meth.locks = false) {Q : Option Value → Heap → List Loc → Prop} {k n : Nat} (h1 : cells ≤ k) (h2 : slots ≤ n) (hQ : Q (some (.int 1)) T.heap locs) :
    own_Goes p e below (own_End s Q k n) (T.setTop (mkF m pc Ls (.int 1 :: rest))) := own_retB X hx hret (Or.inr rfl) hd hlk h1 h2 hQ
theorem own_ret0 (X : Stand p l e R s m args below meth c T locs cells slots) (hx : p.tables.exec = Jvm.exec) {pc : Nat} {Ls : Array Slot} {rest : List Value} (hret : meth.sig.returnType = some .boolean)
    (hd : decode c.code pc = .ok (.ireturn, 1)) (hlk : meth.locks = false) {Q : Option Value → Heap → List Loc → Prop} {k n : Nat} (h1 : cells ≤ k) (h2 : slots ≤ n) (hQ : Q (some (.int 0)) T.heap locs) :
    own_Goes p e below (own_End s Q k n) (T.setTop (mkF m pc Ls (.int 0 :: rest))) := own_retB X hx hret (Or.inl rfl) hd hlk h1 h2 hQ
theorem own_retN (X : Stand p l e R s m args below meth c T locs cells slots) (hx : p.tables.exec = Jvm.exec) {pc : Nat} {Ls : Array Slot} {z : Int32} {t : FieldType} {rest : List Value} (hret : meth.sig.returnType = some t) (ht : t = .boolean ∨ t = .byte ∨ t = .char ∨ t = .short)
    (hd : decode c.code pc = .ok (.ireturn, 1)) (hlk : meth.locks = false) {Q : Option Value → Heap → List Loc → Prop} {k n : Nat} (h1 : cells ≤ k) (h2 : slots ≤ n) (hQ : Q (some (.int (nar t z))) T.heap locs) :
    own_Goes p e below (own_End s Q k n) (T.setTop (mkF m pc Ls (.int z :: rest))) := by
  obtain ⟨fs, hr, hrun, hended, hW, hsame⟩ := X.leave (v := some (.int (nar t z))) (fun h => by rw [hret] at h; cases h) hlk
  exact ⟨_, _, retN X hx hret ht hd hr, hrun, hended, _, _, rfl, hQ, ⟨_, rfl⟩, hW, hsame.mono h1 h2⟩
theorem own_retA (X : Stand p l e R s m args below meth c T locs cells slots) (hx : p.tables.exec = Jvm.exec) {pc : Nat} {Ls : Array Slot} {w : Value} {t : FieldType} {rest : List Value} (hret : meth.sig.returnType = some t) (ht : t.isReference = true) (hw : w.isRef = true)
    (hd : decode c.code pc = .ok (.areturn, 1)) (hlk : meth.locks = false) {Q : Option Value → Heap → List Loc → Prop} {k n : Nat} (h1 : cells ≤ k) (h2 : slots ≤ n) (hQ : Q (some w) T.heap locs) :
    own_Goes p e below (own_End s Q k n) (T.setTop (mkF m pc Ls (w :: rest))) := own_ret X hx hret (by cases t <;> first | rfl | cases ht) (Or.inr (Or.inr (Or.inr (Or.inr ⟨rfl, ht, hw⟩)))) hd hlk h1 h2 hQ
theorem own_retV (X : Stand p l e R s m args below meth c T locs cells slots) (hx : p.tables.exec = Jvm.exec) {pc : Nat} {Ls : Array Slot} (hret : meth.sig.returnType = none)
    (hd : decode c.code pc = .ok (.return_, 1)) (hlk : meth.locks = false) {Q : Option Value → Heap → List Loc → Prop} {k n : Nat} (h1 : cells ≤ k) (h2 : slots ≤ n) (hQ : Q none T.heap locs) :
    own_Goes p e below (own_End s Q k n) (T.setTop (mkF m pc Ls [])) := by
  obtain ⟨fs, hr, hrun, hended, hW, hsame⟩ := X.leave (v := none) (fun _ => rfl) hlk
  exact ⟨_, _, X.returnOut hx hret hd hr, hrun, hended, _, _, rfl, hQ, ⟨_, rfl⟩, hW, hsame.mono h1 h2⟩
end Own
/-- the law says true; nothing old is written -/
def own_True (n0 : Nat) (v : Option Value) (h : Heap) (L : List Loc) : Prop := v = some (.int 1) ∧ Fr n0 L
theorem own_i (x y : Int32) : (x = y ↔ x.toInt = y.toInt) ∧ (x < y ↔ x.toInt < y.toInt) ∧ (x ≤ y ↔ x.toInt ≤ y.toInt) := ⟨Int32.toInt_inj.symm, Int32.lt_iff_toInt_lt, Int32.le_iff_toInt_le⟩
theorem own_ie (x y : Int32) : x = y ↔ x.toInt = y.toInt := Int32.toInt_inj.symm
theorem own_le (x y : Int64) : x = y ↔ x.toInt = y.toInt := Int64.toInt_inj.symm
/-- an array of which the kind and the length alone are told -/
def own_A (Z : State) (h : Heap) (a : Addr) (ty : FieldType) (n : Int32) : Prop := ∃ c : Cell, Arr Z h a c ty ∧ c.slots.size = n.toNatClampNeg ∧ ¬ n < 0
section OwnA
variable {Z : State} {h h' : Heap} {a b : Addr} {ty : FieldType} {n : Int32} {sl : Nat} {v : Value} {ws : List Addr}
theorem own_A.lt (F : own_A Z h a ty n) : a < h.size := by obtain ⟨c, A, -⟩ := F; exact A.lt
theorem own_A.ext (F : own_A Z h a ty n) (E : Ext h h') : own_A Z h' a ty n := by obtain ⟨c, A, r⟩ := F; exact ⟨c, A.ext E, r⟩
theorem own_A.other (F : own_A Z h b ty n) (W : Wr h h' a sl v) (q : b ≠ a) : own_A Z h' b ty n := by obtain ⟨c, A, r⟩ := F; exact ⟨c, A.other W q, r⟩
theorem own_A.same (F : own_A Z h a ty n) (W : Wr h h' a sl v) : own_A Z h' a ty n := by
  obtain ⟨c, A, r1, r2⟩ := F
  exact ⟨_, A.same W, by rw [← r1]; simp [Cell.setSlot], r2⟩
theorem own_A.keep (F : own_A Z h a ty n) (K : Keep h h' ws) (q : a ∉ ws) : own_A Z h' a ty n := by obtain ⟨c, A, r⟩ := F; exact ⟨c, ⟨K.2.1 a c A.1 q, A.2⟩, r⟩
theorem own_A.of {k : ClassId} {vs : List Value} {d : Value} (F : Arv Z h a k ty n vs d) : own_A Z h a ty n := by obtain ⟨c, A, -, r1, r2, -⟩ := F; exact ⟨c, A, r1, r2⟩
end OwnA
theorem own_staKeep {Z : State} {h h' : Heap} {C n d : String} {v : Value} (F : Sta Z h C n d v) (K : Keep h h' []) : Sta Z h' C n d v := by
  obtain ⟨cf, i, k, f, st, cell, h1, h2, h3, h4, h5, r⟩ := F
  exact ⟨cf, i, k, f, st, cell, h1, h2, h3, h4, K.2.1 _ _ h5 nin0, r⟩
theorem d1_0 : decode prog_50_method_2_code 0 = .ok (.lload_n 0, 1) := by decide +kernel
theorem d1_1 : decode prog_50_method_2_code 1 = .ok (.ldc2_w 9, 3) := by decide +kernel
theorem d1_4 : decode prog_50_method_2_code 4 = .ok (.lrem, 1) := by decide +kernel
theorem d1_5 : decode prog_50_method_2_code 5 = .ok (.ldc2_w 11, 3) := by decide +kernel
theorem d1_8 : decode prog_50_method_2_code 8 = .ok (.lcmp, 1) := by decide +kernel
theorem d1_9 : decode prog_50_method_2_code 9 = .ok (.ifCond .lt 7, 3) := by decide +kernel
theorem d1_12 : decode prog_50_method_2_code 12 = .ok (.iconst 1, 1) := by decide +kernel
theorem d1_13 : decode prog_50_method_2_code 13 = .ok (.goto 4, 3) := by decide +kernel
theorem d1_16 : decode prog_50_method_2_code 16 = .ok (.iconst 0, 1) := by decide +kernel
theorem d1_17 : decode prog_50_method_2_code 17 = .ok (.ireturn, 1) := by decide +kernel
theorem pn1 : plainName "com/example/corridor/corridor/nacha/Codes" = true := by first | (simp [plainName, overriddenIn]; done) | decide +kernel
theorem ef_rm1 (m : MethodId) (q0 : Int64) : entryFrame m #[(.long q0)] 2 = mkF m 0 #[.val (.long q0), .second] [] := by first | (simp [entryFrame, mkF, argsToLocals, Value.category]; done) | rfl
def F1 (q0 : Int64) : Int32 := (if (lcmpW (q0 - (q0 / (10 : Int64)) * (10 : Int64)) (5 : Int64)) < (0 : Int32) then (0 : Int32) else (1 : Int32))
set_option maxRecDepth 65536 in
set_option maxHeartbeats 40000000 in
theorem rm1 (l : Launch) (Z : State) (a0 : Array Value) (hw : ∀ d ∈ tables_1, d.before a0 Z = true) (ws : List Jvm.Cond) (q0 : Int64) (h0 : Heap) (n0 : Nat) (Z0 : n0 ≤ h0.size) :
    MetFree l (⟨"com/example/corridor/corridor/nacha/Codes", "isDebit", "(J)Z"⟩ : MethodName) (head1 (Jvm.Cond.code (⟨"com/example/corridor/corridor/nacha/Codes", "isDebit", "(J)Z"⟩ : MethodName) prog_50_method_2_code 2 (some .boolean) :: ws) ({ frames := 0, cells := 0, slots := 0, locals := 0 } : Room)) (fun a U => a = #[(.long q0)] ∧ Z.Warmed39 U.vm ∧ U.heap = h0) (fun _ _ _ _ _ => True) (fun _ U o U' => ∃ v L, o = .returned v ∧ (own_Same (.int (F1 q0)) h0 n0) v U'.heap L ∧ FrameEnd U o U' L 0 0) := by
  refine MetFree.of_bodySF (plainFor_of_name pn1) hisR ?_
  intro p e s m args below meth c s₁ Bd hml0 hP hK
  obtain ⟨rfl, hZ, hh⟩ := hP
  have hx := Bd.exec
  have hby := Bd.bytes
  have hml : c.maxLocals = 2 := hml0
  have hown : s.vm.findClass "com/example/corridor/corridor/nacha/Codes" = some m.cls := findClass_of_methodNamed Bd.named
  have hnm := (name_of_methodNamed Bd.named Bd.method).1
  have X0 : Stand p l e ({ frames := 0, cells := 0, slots := 0, locals := 0 } : Room) s m #[(.long q0)] below meth c s₁ [] 0 0 := Stand.of_body Bd
  have e0 : s₁.heap = h0 := by rw [← hh, Bd.state]; rfl
  have N0 := Fr.nil n0
  show own_Goes p e below (own_End s (own_Same (.int (F1 q0)) h0 n0) 0 0) _
  refine own_go (G := s₁.setTop (mkF m 0 #[.val (.long q0), .second] [])) (fun t k => castTop (ef_rm1 m q0) k) ?_
  refine own_go (G := s₁.setTop (mkF m 1 #[.val (.long q0), .second] [(.long q0)])) (fun _ k => XS.lloadN X0.here hx rfl (hb hby d1_0) rfl k) ?_
  refine own_go (G := s₁.setTop (mkF m 4 #[.val (.long q0), .second] [(.long (10 : Int64)), (.long q0)])) (X0.ldc2Long hx hown (mvT hZ (hw _ (List.mem_of_getElem? (i := 6) rfl))) (g := (mkF m 1 #[.val (.long q0), .second] [(.long q0)])) rfl (hb hby d1_1)) ?_
  refine own_go (G := s₁.setTop (mkF m 5 #[.val (.long q0), .second] [(.long (q0 - (q0 / (10 : Int64)) * (10 : Int64)))])) (fun _ k => XS.lrem X0.here hx rfl (hb hby d1_4) rfl (by decide) k) ?_
  refine own_go (G := s₁.setTop (mkF m 8 #[.val (.long q0), .second] [(.long (5 : Int64)), (.long (q0 - (q0 / (10 : Int64)) * (10 : Int64)))])) (X0.ldc2Long hx hown (mvT hZ (hw _ (List.mem_of_getElem? (i := 7) rfl))) (g := (mkF m 5 #[.val (.long q0), .second] [(.long (q0 - (q0 / (10 : Int64)) * (10 : Int64)))])) rfl (hb hby d1_5)) ?_
  refine own_go (G := s₁.setTop (mkF m 9 #[.val (.long q0), .second] [(.int (lcmpW (q0 - (q0 / (10 : Int64)) * (10 : Int64)) (5 : Int64)))])) (fun _ k => XS.lcmp X0.here hx rfl (hb hby d1_8) rfl k) ?_
  show own_Goes p e below (own_End s (own_Same (.int (if (lcmpW (q0 - (q0 / (10 : Int64)) * (10 : Int64)) (5 : Int64)) < (0 : Int32) then (0 : Int32) else (1 : Int32))) h0 n0) 0 0) _
  by_cases hc9 : (lcmpW (q0 - (q0 / (10 : Int64)) * (10 : Int64)) (5 : Int64)) < (0 : Int32)
  · rw [if_pos hc9]
    refine own_go (G := s₁.setTop (mkF m 16 #[.val (.long q0), .second] [])) (fun _ k => XS.ifYes X0.here hx rfl (pc0 := 9) (pc' := 16) rfl (hb hby d1_9) rfl ((if0 _ _).trans (tlt hc9).1) (by decide) (by decide) k) ?_
    refine own_go (G := s₁.setTop (mkF m 17 #[.val (.long q0), .second] [(.int (0 : Int32))])) (fun _ k => XS.iconst X0.here hx rfl (hb hby d1_16) k) ?_
    exact own_ret0 X0 hx Bd.returns (hb hby d1_17) Bd.notSynchronized (by decide) (by decide) ⟨rfl, N0, e0⟩
  · rw [if_neg hc9]
    refine own_go (G := s₁.setTop (mkF m 12 #[.val (.long q0), .second] [])) (fun _ k => XS.ifNo X0.here hx rfl (hb hby d1_9) rfl ((if0 _ _).trans (flt hc9).1) k) ?_
    refine own_go (G := s₁.setTop (mkF m 13 #[.val (.long q0), .second] [(.int (1 : Int32))])) (fun _ k => XS.iconst X0.here hx rfl (hb hby d1_12) k) ?_
    refine own_go (G := s₁.setTop (mkF m 17 #[.val (.long q0), .second] [(.int (1 : Int32))])) (fun _ k => XS.goto X0.here hx rfl (pc0 := 13) (pc' := 17) rfl (hb hby d1_13) (by decide) (by decide) k) ?_
    exact own_ret1 X0 hx Bd.returns (hb hby d1_17) Bd.notSynchronized (by decide) (by decide) ⟨rfl, N0, e0⟩
theorem d2_0 : decode method_2_code 0 = .ok (.iload_n 0, 1) := by decide +kernel
theorem d2_1 : decode method_2_code 1 = .ok (.iconst 5, 1) := by decide +kernel
theorem d2_2 : decode method_2_code 2 = .ok (.if_icmp .eq 27, 3) := by decide +kernel
theorem d2_5 : decode method_2_code 5 = .ok (.iload_n 0, 1) := by decide +kernel
theorem d2_6 : decode method_2_code 6 = .ok (.bipush 6, 2) := by decide +kernel
theorem d2_8 : decode method_2_code 8 = .ok (.if_icmp .eq 21, 3) := by decide +kernel
theorem d2_11 : decode method_2_code 11 = .ok (.iload_n 0, 1) := by decide +kernel
theorem d2_12 : decode method_2_code 12 = .ok (.bipush 7, 2) := by decide +kernel
theorem d2_14 : decode method_2_code 14 = .ok (.if_icmp .eq 15, 3) := by decide +kernel
theorem d2_17 : decode method_2_code 17 = .ok (.iload_n 0, 1) := by decide +kernel
theorem d2_18 : decode method_2_code 18 = .ok (.bipush 8, 2) := by decide +kernel
theorem d2_20 : decode method_2_code 20 = .ok (.if_icmp .eq 9, 3) := by decide +kernel
theorem d2_23 : decode method_2_code 23 = .ok (.iload_n 0, 1) := by decide +kernel
theorem d2_24 : decode method_2_code 24 = .ok (.bipush 9, 2) := by decide +kernel
theorem d2_26 : decode method_2_code 26 = .ok (.if_icmp .ne 5, 3) := by decide +kernel
theorem d2_29 : decode method_2_code 29 = .ok (.iconst 1, 1) := by decide +kernel
theorem d2_30 : decode method_2_code 30 = .ok (.ireturn, 1) := by decide +kernel
theorem d2_31 : decode method_2_code 31 = .ok (.iconst 0, 1) := by decide +kernel
theorem d2_32 : decode method_2_code 32 = .ok (.ireturn, 1) := by decide +kernel
theorem pn2 : plainName "com/example/corridor/corridor/nacha/CodesIsDebitPinLaw" = true := by first | (simp [plainName, overriddenIn]; done) | decide +kernel
theorem ef_rm2 (m : MethodId) (p0 : Int32) : entryFrame m #[(.int p0)] 1 = mkF m 0 #[.val (.int p0)] [] := by first | (simp [entryFrame, mkF, argsToLocals, Value.category]; done) | rfl
def F2 (p0 : Int32) : Int32 := (if p0 = (5 : Int32) then (1 : Int32) else (if p0 = (6 : Int32) then (1 : Int32) else (if p0 = (7 : Int32) then (1 : Int32) else (if p0 = (8 : Int32) then (1 : Int32) else (if p0 = (9 : Int32) then (1 : Int32) else (0 : Int32))))))
set_option maxRecDepth 65536 in
set_option maxHeartbeats 40000000 in
theorem rm2 (l : Launch) (Z : State) (a0 : Array Value) (hw : ∀ d ∈ tables_1, d.before a0 Z = true) (ws : List Jvm.Cond) (p0 : Int32) (h0 : Heap) (n0 : Nat) (Z0 : n0 ≤ h0.size) :
    MetFree l (⟨"com/example/corridor/corridor/nacha/CodesIsDebitPinLaw", "digitIsDebit", "(I)Z"⟩ : MethodName) (head1 (Jvm.Cond.code (⟨"com/example/corridor/corridor/nacha/CodesIsDebitPinLaw", "digitIsDebit", "(I)Z"⟩ : MethodName) method_2_code 1 (some .boolean) :: ws) ({ frames := 0, cells := 0, slots := 0, locals := 0 } : Room)) (fun a U => a = #[(.int p0)] ∧ Z.Warmed39 U.vm ∧ U.heap = h0) (fun _ _ _ _ _ => True) (fun _ U o U' => ∃ v L, o = .returned v ∧ (own_Same (.int (F2 p0)) h0 n0) v U'.heap L ∧ FrameEnd U o U' L 0 0) := by
  refine MetFree.of_bodySF (plainFor_of_name pn2) hisR ?_
  intro p e s m args below meth c s₁ Bd hml0 hP hK
  obtain ⟨rfl, hZ, hh⟩ := hP
  have hx := Bd.exec
  have hby := Bd.bytes
  have hml : c.maxLocals = 1 := hml0
  have hown : s.vm.findClass "com/example/corridor/corridor/nacha/CodesIsDebitPinLaw" = some m.cls := findClass_of_methodNamed Bd.named
  have hnm := (name_of_methodNamed Bd.named Bd.method).1
  have X0 : Stand p l e ({ frames := 0, cells := 0, slots := 0, locals := 0 } : Room) s m #[(.int p0)] below meth c s₁ [] 0 0 := Stand.of_body Bd
  have e0 : s₁.heap = h0 := by rw [← hh, Bd.state]; rfl
  have N0 := Fr.nil n0
  show own_Goes p e below (own_End s (own_Same (.int (F2 p0)) h0 n0) 0 0) _
  refine own_go (G := s₁.setTop (mkF m 0 #[.val (.int p0)] [])) (fun t k => castTop (ef_rm2 m p0) k) ?_
  refine own_go (G := s₁.setTop (mkF m 1 #[.val (.int p0)] [(.int p0)])) (fun _ k => XS.iloadN X0.here hx rfl (hb hby d2_0) rfl k) ?_
  refine own_go (G := s₁.setTop (mkF m 2 #[.val (.int p0)] [(.int (5 : Int32)), (.int p0)])) (fun _ k => XS.iconst X0.here hx rfl (hb hby d2_1) k) ?_
  show own_Goes p e below (own_End s (own_Same (.int (if p0 = (5 : Int32) then (1 : Int32) else (if p0 = (6 : Int32) then (1 : Int32) else (if p0 = (7 : Int32) then (1 : Int32) else (if p0 = (8 : Int32) then (1 : Int32) else (if p0 = (9 : Int32) then (1 : Int32) else (0 : Int32))))))) h0 n0) 0 0) _
  by_cases hc2 : p0 = (5 : Int32)
  · rw [if_pos hc2]
    refine own_go (G := s₁.setTop (mkF m 29 #[.val (.int p0)] [])) (fun _ k => XS.icmpYes X0.here hx rfl (pc0 := 2) (pc' := 29) rfl (hb hby d2_2) rfl (teq hc2).1 (by decide) (by decide) k) ?_
    refine own_go (G := s₁.setTop (mkF m 30 #[.val (.int p0)] [(.int (1 : Int32))])) (fun _ k => XS.iconst X0.here hx rfl (hb hby d2_29) k) ?_
    exact own_ret1 X0 hx Bd.returns (hb hby d2_30) Bd.notSynchronized (by decide) (by decide) ⟨rfl, N0, e0⟩
  · rw [if_neg hc2]
    refine own_go (G := s₁.setTop (mkF m 5 #[.val (.int p0)] [])) (fun _ k => XS.icmpNo X0.here hx rfl (hb hby d2_2) rfl (feq hc2).1 k) ?_
    refine own_go (G := s₁.setTop (mkF m 6 #[.val (.int p0)] [(.int p0)])) (fun _ k => XS.iloadN X0.here hx rfl (hb hby d2_5) rfl k) ?_
    refine own_go (G := s₁.setTop (mkF m 8 #[.val (.int p0)] [(.int (6 : Int32)), (.int p0)])) (fun _ k => XS.bipush X0.here hx rfl (hb hby d2_6) k) ?_
    show own_Goes p e below (own_End s (own_Same (.int (if p0 = (6 : Int32) then (1 : Int32) else (if p0 = (7 : Int32) then (1 : Int32) else (if p0 = (8 : Int32) then (1 : Int32) else (if p0 = (9 : Int32) then (1 : Int32) else (0 : Int32)))))) h0 n0) 0 0) _
    by_cases hc8 : p0 = (6 : Int32)
    · rw [if_pos hc8]
      refine own_go (G := s₁.setTop (mkF m 29 #[.val (.int p0)] [])) (fun _ k => XS.icmpYes X0.here hx rfl (pc0 := 8) (pc' := 29) rfl (hb hby d2_8) rfl (teq hc8).1 (by decide) (by decide) k) ?_
      refine own_go (G := s₁.setTop (mkF m 30 #[.val (.int p0)] [(.int (1 : Int32))])) (fun _ k => XS.iconst X0.here hx rfl (hb hby d2_29) k) ?_
      exact own_ret1 X0 hx Bd.returns (hb hby d2_30) Bd.notSynchronized (by decide) (by decide) ⟨rfl, N0, e0⟩
    · rw [if_neg hc8]
      refine own_go (G := s₁.setTop (mkF m 11 #[.val (.int p0)] [])) (fun _ k => XS.icmpNo X0.here hx rfl (hb hby d2_8) rfl (feq hc8).1 k) ?_
      refine own_go (G := s₁.setTop (mkF m 12 #[.val (.int p0)] [(.int p0)])) (fun _ k => XS.iloadN X0.here hx rfl (hb hby d2_11) rfl k) ?_
      refine own_go (G := s₁.setTop (mkF m 14 #[.val (.int p0)] [(.int (7 : Int32)), (.int p0)])) (fun _ k => XS.bipush X0.here hx rfl (hb hby d2_12) k) ?_
      show own_Goes p e below (own_End s (own_Same (.int (if p0 = (7 : Int32) then (1 : Int32) else (if p0 = (8 : Int32) then (1 : Int32) else (if p0 = (9 : Int32) then (1 : Int32) else (0 : Int32))))) h0 n0) 0 0) _
      by_cases hc14 : p0 = (7 : Int32)
      · rw [if_pos hc14]
        refine own_go (G := s₁.setTop (mkF m 29 #[.val (.int p0)] [])) (fun _ k => XS.icmpYes X0.here hx rfl (pc0 := 14) (pc' := 29) rfl (hb hby d2_14) rfl (teq hc14).1 (by decide) (by decide) k) ?_
        refine own_go (G := s₁.setTop (mkF m 30 #[.val (.int p0)] [(.int (1 : Int32))])) (fun _ k => XS.iconst X0.here hx rfl (hb hby d2_29) k) ?_
        exact own_ret1 X0 hx Bd.returns (hb hby d2_30) Bd.notSynchronized (by decide) (by decide) ⟨rfl, N0, e0⟩
      · rw [if_neg hc14]
        refine own_go (G := s₁.setTop (mkF m 17 #[.val (.int p0)] [])) (fun _ k => XS.icmpNo X0.here hx rfl (hb hby d2_14) rfl (feq hc14).1 k) ?_
        refine own_go (G := s₁.setTop (mkF m 18 #[.val (.int p0)] [(.int p0)])) (fun _ k => XS.iloadN X0.here hx rfl (hb hby d2_17) rfl k) ?_
        refine own_go (G := s₁.setTop (mkF m 20 #[.val (.int p0)] [(.int (8 : Int32)), (.int p0)])) (fun _ k => XS.bipush X0.here hx rfl (hb hby d2_18) k) ?_
        show own_Goes p e below (own_End s (own_Same (.int (if p0 = (8 : Int32) then (1 : Int32) else (if p0 = (9 : Int32) then (1 : Int32) else (0 : Int32)))) h0 n0) 0 0) _
        by_cases hc20 : p0 = (8 : Int32)
        · rw [if_pos hc20]
          refine own_go (G := s₁.setTop (mkF m 29 #[.val (.int p0)] [])) (fun _ k => XS.icmpYes X0.here hx rfl (pc0 := 20) (pc' := 29) rfl (hb hby d2_20) rfl (teq hc20).1 (by decide) (by decide) k) ?_
          refine own_go (G := s₁.setTop (mkF m 30 #[.val (.int p0)] [(.int (1 : Int32))])) (fun _ k => XS.iconst X0.here hx rfl (hb hby d2_29) k) ?_
          exact own_ret1 X0 hx Bd.returns (hb hby d2_30) Bd.notSynchronized (by decide) (by decide) ⟨rfl, N0, e0⟩
        · rw [if_neg hc20]
          refine own_go (G := s₁.setTop (mkF m 23 #[.val (.int p0)] [])) (fun _ k => XS.icmpNo X0.here hx rfl (hb hby d2_20) rfl (feq hc20).1 k) ?_
          refine own_go (G := s₁.setTop (mkF m 24 #[.val (.int p0)] [(.int p0)])) (fun _ k => XS.iloadN X0.here hx rfl (hb hby d2_23) rfl k) ?_
          refine own_go (G := s₁.setTop (mkF m 26 #[.val (.int p0)] [(.int (9 : Int32)), (.int p0)])) (fun _ k => XS.bipush X0.here hx rfl (hb hby d2_24) k) ?_
          show own_Goes p e below (own_End s (own_Same (.int (if p0 = (9 : Int32) then (1 : Int32) else (0 : Int32))) h0 n0) 0 0) _
          by_cases hc26 : p0 = (9 : Int32)
          · rw [if_pos hc26]
            refine own_go (G := s₁.setTop (mkF m 29 #[.val (.int p0)] [])) (fun _ k => XS.icmpNo X0.here hx rfl (hb hby d2_26) rfl (teq hc26).2 k) ?_
            refine own_go (G := s₁.setTop (mkF m 30 #[.val (.int p0)] [(.int (1 : Int32))])) (fun _ k => XS.iconst X0.here hx rfl (hb hby d2_29) k) ?_
            exact own_ret1 X0 hx Bd.returns (hb hby d2_30) Bd.notSynchronized (by decide) (by decide) ⟨rfl, N0, e0⟩
          · rw [if_neg hc26]
            refine own_go (G := s₁.setTop (mkF m 31 #[.val (.int p0)] [])) (fun _ k => XS.icmpYes X0.here hx rfl (pc0 := 26) (pc' := 31) rfl (hb hby d2_26) rfl (feq hc26).2 (by decide) (by decide) k) ?_
            refine own_go (G := s₁.setTop (mkF m 32 #[.val (.int p0)] [(.int (0 : Int32))])) (fun _ k => XS.iconst X0.here hx rfl (hb hby d2_31) k) ?_
            exact own_ret0 X0 hx Bd.returns (hb hby d2_32) Bd.notSynchronized (by decide) (by decide) ⟨rfl, N0, e0⟩
theorem own_b1 {q0 v1 : Int64} (hv1 : ((q0.toUInt64 >>> ((5 : Int32) &&& 0x3f).toInt64.toUInt64).toInt64) = v1) : 0 ≤ v1.toInt ∧ v1.toInt < 576460752303423488 := by
  have a1 := c_lushr q0 5 5 (by decide) (by decide)
  rw [hv1, show ((2 ^ 5 : Nat) : Int) = 32 from rfl] at a1
  have h1 := Int.emod_nonneg q0.toInt (show (18446744073709551616 : Int) ≠ 0 by decide)
  have h2 := Int.emod_lt_of_pos q0.toInt (show (0 : Int) < 18446744073709551616 by decide)
  generalize q0.toInt % 18446744073709551616 = z at *
  omega
theorem own_b2 {p1 v2 : Int32} (hv2 : ((p1 &&& (2147483647 : Int32)) % (10 : Int32)) = v2) : 0 ≤ v2.toInt ∧ v2.toInt < 10 := by
  have a2 := c_mask p1 2147483647 31 (by decide) (by decide)
  rw [show ((2 ^ 31 : Nat) : Int) = 2147483648 from rfl] at a2
  have a3 := (c_irem (p1 &&& 2147483647) 10 10 (by decide)).1 (by rw [a2]; omega)
  rw [hv2] at a3
  omega
theorem own_law {q0 : Int64} {p1 : Int32} {v1 : Int64} {v2 : Int32} {v3 : Int64} (hv1 : ((q0.toUInt64 >>> ((5 : Int32) &&& 0x3f).toInt64.toUInt64).toInt64) = v1) (hv2 : ((p1 &&& (2147483647 : Int32)) % (10 : Int32)) = v2)
    (hv3 : ((v1 * (10 : Int64)) + (v2.toInt64)) = v3) : F1 v3 = F2 v2 := by
  obtain ⟨b1, b2⟩ := own_b1 hv1
  obtain ⟨b3, b4⟩ := own_b2 hv2
  have a4 := c_lmul v1 10
  have r4 := rng64 (v1 * 10)
  rw [show (10 : Int64).toInt = 10 from rfl] at a4
  have e4 : (v1 * 10).toInt = v1.toInt * 10 := by omega
  have a5 := c_ladd (v1 * 10) v2.toInt64
  rw [hv3, c_i2l, e4] at a5
  have r5 := rng64 v3
  have e5 : v3.toInt = v1.toInt * 10 + v2.toInt := by omega
  have a6 := (c_lrem v3 10 10 (by decide)).1 (by omega)
  rw [e5] at a6
  have a7 : (v3 - (v3 / 10) * 10).toInt = v2.toInt := by rw [a6]; omega
  have a8 : (v3 - (v3 / 10) * 10 < 5) ↔ v2.toInt < 5 := by rw [Int64.lt_iff_toInt_lt, a7, show (5 : Int64).toInt = 5 from rfl]
  simp only [F1, F2, lw_lt, a8, own_ie, show (5 : Int32).toInt = 5 from rfl, show (6 : Int32).toInt = 6 from rfl, show (7 : Int32).toInt = 7 from rfl, show (8 : Int32).toInt = 8 from rfl, show (9 : Int32).toInt = 9 from rfl]
  clear a4 a5 a6 a7 a8 e4 e5 r4 r5
  generalize v2.toInt = z at *
  repeat' split
  all_goals first | rfl | omega

theorem pn0 : plainName "com/example/corridor/corridor/nacha/CodesIsDebitPinLaw" = true := by first | (simp [plainName, overriddenIn]; done) | decide +kernel
theorem pd0 : parseMethodDescriptor "(J)Z" = some ⟨[.long], some .boolean⟩ := by decide +kernel
theorem pd1 : parseMethodDescriptor "(I)Z" = some ⟨[.int], some .boolean⟩ := by decide +kernel
theorem ef_rm0 (m : MethodId) (q0 : Int64) (p1 : Int32) : entryFrame m #[(.long q0), (.int p1)] maxLocals = mkF m 0 #[.val (.long q0), .second, .val (.int p1), .unset, .unset, .unset, .unset, .unset] [] := by first | (simp [entryFrame, mkF, argsToLocals, Value.category, maxLocals]; done) | rfl
set_option maxRecDepth 65536 in
set_option maxHeartbeats 40000000 in
theorem rm0 (l : Launch) (Z : State) (a0 : Array Value) (hw : ∀ d ∈ tables_1, d.before a0 Z = true) (ws : List Jvm.Cond) (q0 : Int64) (p1 : Int32) (h0 : Heap) (n0 : Nat) (Z0 : n0 ≤ h0.size) :
    MetFree l x (head1 (Jvm.Cond.code x code maxLocals ret :: ws) room_1) (fun a U => a = #[(.long q0), (.int p1)] ∧ Z.Warmed39 U.vm ∧ U.heap = h0) (fun _ _ _ _ _ => True) (fun _ U o U' => ∃ v L, o = .returned v ∧ (own_True n0) v U'.heap L ∧ FrameEnd U o U' L 0 0) := by
  refine MetFree.of_bodySF (plainFor_of_name pn0) hisR ?_
  intro p e s m args below meth c s₁ Bd hml0 hP hK
  obtain ⟨rfl, hZ, hh⟩ := hP
  have hx := Bd.exec
  have hby := Bd.bytes
  have hml : c.maxLocals = 8 := hml0
  have hown : s.vm.findClass "com/example/corridor/corridor/nacha/CodesIsDebitPinLaw" = some m.cls := findClass_of_methodNamed Bd.named
  have hnm := (name_of_methodNamed Bd.named Bd.method).1
  have X0 : Stand p l e room_1 s m #[(.long q0), (.int p1)] below meth c s₁ [] 0 0 := Stand.of_body Bd
  have e0 : s₁.heap = h0 := by rw [← hh, Bd.state]; rfl
  have N0 := Fr.nil n0
  show own_Goes p e below (own_End s (own_True n0) 0 0) _
  refine own_go (G := s₁.setTop (mkF m 0 #[.val (.long q0), .second, .val (.int p1), .unset, .unset, .unset, .unset, .unset] [])) (fun t k => castTop (ef_rm0 m q0 p1) k) ?_
  refine own_go (G := s₁.setTop (mkF m 1 #[.val (.long q0), .second, .val (.int p1), .unset, .unset, .unset, .unset, .unset] [(.long q0)])) (fun _ k => XS.lloadN X0.here hx rfl (hb hby at_0) rfl k) ?_
  refine own_go (G := s₁.setTop (mkF m 2 #[.val (.long q0), .second, .val (.int p1), .unset, .unset, .unset, .unset, .unset] [(.int (5 : Int32)), (.long q0)])) (fun _ k => XS.iconst X0.here hx rfl (hb hby at_1) k) ?_
  refine own_go (G := s₁.setTop (mkF m 3 #[.val (.long q0), .second, .val (.int p1), .unset, .unset, .unset, .unset, .unset] [(.long ((q0.toUInt64 >>> ((5 : Int32) &&& 0x3f).toInt64.toUInt64).toInt64))])) (fun _ k => XS.lushr X0.here hx rfl (hb hby at_2) rfl k) ?_
  generalize hv1 : ((q0.toUInt64 >>> ((5 : Int32) &&& 0x3f).toInt64.toUInt64).toInt64) = v1
  refine own_go (G := s₁.setTop (mkF m 4 #[.val (.long q0), .second, .val (.int p1), .val (.long v1), .second, .unset, .unset, .unset] [])) (fun _ k => XS.lstoreN X0.here hx rfl (hb hby at_3) rfl (l' := #[.val (.long q0), .second, .val (.int p1), .val (.long v1), .second, .unset, .unset, .unset]) rfl k) ?_
  refine own_go (G := s₁.setTop (mkF m 5 #[.val (.long q0), .second, .val (.int p1), .val (.long v1), .second, .unset, .unset, .unset] [(.int p1)])) (fun _ k => XS.iloadN X0.here hx rfl (hb hby at_4) rfl k) ?_
  refine own_go (G := s₁.setTop (mkF m 7 #[.val (.long q0), .second, .val (.int p1), .val (.long v1), .second, .unset, .unset, .unset] [(.int (2147483647 : Int32)), (.int p1)])) (X0.ldcInt hx hown (mvT hZ (hw _ (List.mem_of_getElem? (i := 0) rfl))) (g := (mkF m 5 #[.val (.long q0), .second, .val (.int p1), .val (.long v1), .second, .unset, .unset, .unset] [(.int p1)])) rfl (hb hby at_5)) ?_
  refine own_go (G := s₁.setTop (mkF m 8 #[.val (.long q0), .second, .val (.int p1), .val (.long v1), .second, .unset, .unset, .unset] [(.int (p1 &&& (2147483647 : Int32)))])) (fun _ k => XS.iand X0.here hx rfl (hb hby at_7) rfl k) ?_
  refine own_go (G := s₁.setTop (mkF m 10 #[.val (.long q0), .second, .val (.int p1), .val (.long v1), .second, .unset, .unset, .unset] [(.int (10 : Int32)), (.int (p1 &&& (2147483647 : Int32)))])) (fun _ k => XS.bipush X0.here hx rfl (hb hby at_8) k) ?_
  refine own_go (G := s₁.setTop (mkF m 11 #[.val (.long q0), .second, .val (.int p1), .val (.long v1), .second, .unset, .unset, .unset] [(.int ((p1 &&& (2147483647 : Int32)) % (10 : Int32)))])) (fun _ k => iremM X0 hx rfl (hb hby at_10) rfl (by decide) k) ?_
  generalize hv2 : ((p1 &&& (2147483647 : Int32)) % (10 : Int32)) = v2
  refine own_go (G := s₁.setTop (mkF m 13 #[.val (.long q0), .second, .val (.int p1), .val (.long v1), .second, .val (.int v2), .unset, .unset] [])) (fun _ k => XS.istore X0.here hx rfl (hb hby at_11) rfl (l' := #[.val (.long q0), .second, .val (.int p1), .val (.long v1), .second, .val (.int v2), .unset, .unset]) rfl k) ?_
  refine own_go (G := s₁.setTop (mkF m 14 #[.val (.long q0), .second, .val (.int p1), .val (.long v1), .second, .val (.int v2), .unset, .unset] [(.long v1)])) (fun _ k => XS.lloadN X0.here hx rfl (hb hby at_13) rfl k) ?_
  refine own_go (G := s₁.setTop (mkF m 17 #[.val (.long q0), .second, .val (.int p1), .val (.long v1), .second, .val (.int v2), .unset, .unset] [(.long (10 : Int64)), (.long v1)])) (X0.ldc2Long hx hown (mvT hZ (hw _ (List.mem_of_getElem? (i := 1) rfl))) (g := (mkF m 14 #[.val (.long q0), .second, .val (.int p1), .val (.long v1), .second, .val (.int v2), .unset, .unset] [(.long v1)])) rfl (hb hby at_14)) ?_
  refine own_go (G := s₁.setTop (mkF m 18 #[.val (.long q0), .second, .val (.int p1), .val (.long v1), .second, .val (.int v2), .unset, .unset] [(.long (v1 * (10 : Int64)))])) (fun _ k => XS.lmul X0.here hx rfl (hb hby at_17) rfl k) ?_
  refine own_go (G := s₁.setTop (mkF m 20 #[.val (.long q0), .second, .val (.int p1), .val (.long v1), .second, .val (.int v2), .unset, .unset] [(.int v2), (.long (v1 * (10 : Int64)))])) (fun _ k => XS.iload X0.here hx rfl (hb hby at_18) rfl k) ?_
  refine own_go (G := s₁.setTop (mkF m 21 #[.val (.long q0), .second, .val (.int p1), .val (.long v1), .second, .val (.int v2), .unset, .unset] [(.long (v2.toInt64)), (.long (v1 * (10 : Int64)))])) (fun _ k => XS.i2l X0.here hx rfl (hb hby at_20) rfl k) ?_
  refine own_go (G := s₁.setTop (mkF m 22 #[.val (.long q0), .second, .val (.int p1), .val (.long v1), .second, .val (.int v2), .unset, .unset] [(.long ((v1 * (10 : Int64)) + (v2.toInt64)))])) (fun _ k => XS.ladd X0.here hx rfl (hb hby at_21) rfl k) ?_
  generalize hv3 : ((v1 * (10 : Int64)) + (v2.toInt64)) = v3
  refine own_go (G := s₁.setTop (mkF m 24 #[.val (.long q0), .second, .val (.int p1), .val (.long v1), .second, .val (.int v2), .val (.long v3), .second] [])) (fun _ k => XS.lstore X0.here hx rfl (hb hby at_22) rfl (l' := #[.val (.long q0), .second, .val (.int p1), .val (.long v1), .second, .val (.int v2), .val (.long v3), .second]) rfl k) ?_
  refine own_go (G := s₁.setTop (mkF m 26 #[.val (.long q0), .second, .val (.int p1), .val (.long v1), .second, .val (.int v2), .val (.long v3), .second] [(.long v3)])) (fun _ k => XS.lload X0.here hx rfl (hb hby at_24) rfl k) ?_
  obtain ⟨_, _, ⟨T4, L4, k4, n4⟩, -, X4, ⟨Lc4, hQ4, l4, y4, z4⟩, st4⟩ := Jvm.LawKit.callS X0 hx (y := (⟨"com/example/corridor/corridor/nacha/Codes", "isDebit", "(J)Z"⟩ : MethodName)) hown (mvT hZ (hw _ (List.mem_of_getElem? (i := 2) rfl))) (mvT hZ (hw _ (List.mem_of_getElem? (i := 3) rfl))) (mvT hZ (hw _ (List.mem_of_getElem? (i := 4) rfl))) (mvT hZ (hw _ (List.mem_of_getElem? (i := 5) rfl))) (by decide) (backOf (W := 0) (rm1 l Z a0 hw [] v3 h0 n0 Z0) hZ (hw _ (List.mem_of_getElem? (i := 5) rfl)) (hw _ (List.mem_of_getElem? (i := 4) rfl)) (by decide) (by decide)) (g := (mkF m 26 #[.val (.long q0), .second, .val (.int p1), .val (.long v1), .second, .val (.int v2), .val (.long v3), .second] [(.long v3)])) rfl (by rw [hml]; rfl) (argsL := [(.long v3)]) (rest := []) (lenOf pd0 rfl) rfl (by show 2 * 0 + _ ≤ _; exact Nat.le_of_eq rfl) (hb hby at_26) (fun _ _ => ⟨rfl, e0, (by decide : 0 + 0 ≤ _), (by decide : 0 + 0 ≤ _)⟩)
  dsimp only [Pt.U, Pt.locs, Pt.cells, Pt.slots] at X4 l4 y4 z4 st4 hQ4
  subst l4 y4 z4
  obtain ⟨rfl, Nq4, e4⟩ := hQ4
  have N4 := Fr.app N0 Nq4
  refine own_go (G := T4.setTop (mkF m 29 #[.val (.long q0), .second, .val (.int p1), .val (.long v1), .second, .val (.int v2), .val (.long v3), .second] [(.int (F1 v3))])) (st4) ?_
  refine own_go (G := T4.setTop (mkF m 31 #[.val (.long q0), .second, .val (.int p1), .val (.long v1), .second, .val (.int v2), .val (.long v3), .second] [(.int v2), (.int (F1 v3))])) (fun _ k => XS.iload X4.here hx rfl (hb hby at_29) rfl k) ?_
  obtain ⟨_, _, ⟨T5, L5, k5, n5⟩, -, X5, ⟨Lc5, hQ5, l5, y5, z5⟩, st5⟩ := Jvm.LawKit.callS X4 hx (y := (⟨"com/example/corridor/corridor/nacha/CodesIsDebitPinLaw", "digitIsDebit", "(I)Z"⟩ : MethodName)) hown (mvT hZ (hw _ (List.mem_of_getElem? (i := 8) rfl))) (mvT hZ (hw _ (List.mem_of_getElem? (i := 9) rfl))) (mvT hZ (hw _ (List.mem_of_getElem? (i := 10) rfl))) (mvT hZ (hw _ (List.mem_of_getElem? (i := 11) rfl))) (by decide) (backOf (W := 1) (rm2 l Z a0 hw [] v2 h0 n0 Z0) hZ (hw _ (List.mem_of_getElem? (i := 11) rfl)) (hw _ (List.mem_of_getElem? (i := 10) rfl)) (by decide) (by decide)) (g := (mkF m 31 #[.val (.long q0), .second, .val (.int p1), .val (.long v1), .second, .val (.int v2), .val (.long v3), .second] [(.int v2), (.int (F1 v3))])) rfl (by rw [hml]; rfl) (argsL := [(.int v2)]) (rest := [(.int (F1 v3))]) (lenOf pd1 rfl) rfl (by show 2 * 0 + _ ≤ _; exact Nat.le_of_eq rfl) (hb hby at_31) (fun _ _ => ⟨rfl, e4, (by decide : 0 + 0 ≤ _), (by decide : 0 + 0 ≤ _)⟩)
  dsimp only [Pt.U, Pt.locs, Pt.cells, Pt.slots] at X5 l5 y5 z5 st5 hQ5
  subst l5 y5 z5
  obtain ⟨rfl, Nq5, e5⟩ := hQ5
  have N5 := Fr.app N4 Nq5
  refine own_go (G := T5.setTop (mkF m 34 #[.val (.long q0), .second, .val (.int p1), .val (.long v1), .second, .val (.int v2), .val (.long v3), .second] [(.int (F2 v2)), (.int (F1 v3))])) (st5) ?_
  by_cases hc34 : (F1 v3) = (F2 v2)
  · skip
    refine own_go (G := T5.setTop (mkF m 37 #[.val (.long q0), .second, .val (.int p1), .val (.long v1), .second, .val (.int v2), .val (.long v3), .second] [])) (fun _ k => XS.icmpNo X5.here hx rfl (hb hby at_34) rfl (teq hc34).2 k) ?_
    refine own_go (G := T5.setTop (mkF m 38 #[.val (.long q0), .second, .val (.int p1), .val (.long v1), .second, .val (.int v2), .val (.long v3), .second] [(.int (1 : Int32))])) (fun _ k => XS.iconst X5.here hx rfl (hb hby at_37) k) ?_
    refine own_go (G := T5.setTop (mkF m 42 #[.val (.long q0), .second, .val (.int p1), .val (.long v1), .second, .val (.int v2), .val (.long v3), .second] [(.int (1 : Int32))])) (fun _ k => XS.goto X5.here hx rfl (pc0 := 38) (pc' := 42) rfl (hb hby at_38) (by decide) (by decide) k) ?_
    exact own_ret1 X5 hx Bd.returns (hb hby at_42) Bd.notSynchronized (by decide) (by decide) ⟨rfl, N5⟩
  · skip
    refine own_go (G := T5.setTop (mkF m 41 #[.val (.long q0), .second, .val (.int p1), .val (.long v1), .second, .val (.int v2), .val (.long v3), .second] [])) (fun _ k => XS.icmpYes X5.here hx rfl (pc0 := 34) (pc' := 41) rfl (hb hby at_34) rfl (feq hc34).2 (by decide) (by decide) k) ?_
    refine own_go (G := T5.setTop (mkF m 42 #[.val (.long q0), .second, .val (.int p1), .val (.long v1), .second, .val (.int v2), .val (.long v3), .second] [(.int (0 : Int32))])) (fun _ k => XS.iconst X5.here hx rfl (hb hby at_41) k) ?_
    exfalso
    exact hc34 (own_law hv1 hv2 hv3)
set_option maxRecDepth 65536 in
set_option maxHeartbeats 40000000 in
theorem comes_1 {Post : Tables → Env → Array Value → State → Outcome → State → Prop} (hpost : ∀ tb e args s v u, (limb_1_1.after args s (.returned v) u = true ∧ limb_1_2.after args s (.returned v) u = true ∧ True) → FrameEnd s (.returned v) u (Jvm.fieldLocs frame_1_writes args s ++ Jvm.arrayLocs frame_1_arrays args s ++ Jvm.staticLocs frame_1_statics s) 0 0 → Post tb e args s (.returned v) u) :
    ArmFor flags0 classFile x code maxLocals ret World_1 tables_1 room_1 Calls_1 rest_1 Pre_1 Post := by
  intro l hfl _ _ p e ha hc hk s m args below hf hA hF happ hP
  obtain ⟨hcalls, hrest, hpre⟩ := hP
  obtain ⟨-, -, -, hnamed, -, -, -, hat⟩ := (Spec.applies_iff hf).mp happ
  obtain ⟨hg, hn⟩ := and_e (Cond.before_iff.mp (show (Jvm.Cond.and given_1 narrow_1).before args s = true from hpre))
  obtain ⟨gc, g0⟩ := and_e hg
  obtain ⟨ga0, g1⟩ := and_e g0
  obtain ⟨w0, w1, rfl⟩ : ∃ w0 w1 : Value, args = #[w0, w1] := by
    have hs : args.size = 2 := by simpa [Cond.value, given_1] using gc
    obtain ⟨L⟩ := args
    match L, hs with
    | [w0, w1], _ => exact ⟨w0, w1, rfl⟩
  have hw := fun d (hd : d ∈ tables_1) => atoms_spec (ws := Jvm.Cond.code x code maxLocals ret :: tables_1) hat d (List.mem_cons_of_mem _ hd)
  obtain ⟨i0, ei0⟩ := isL_v ga0
  obtain rfl : w0 = (.long i0) := Option.some.inj ei0
  obtain ⟨i1, ei1⟩ := is_v g1
  obtain rfl : w1 = (.int i1) := Option.some.inj ei1
  obtain ⟨n, o, h1, h2, h3, _, L, rfl, ⟨rfl, N⟩, hq⟩ := rm0 l s _ hw tables_1 i0 i1 s.heap s.heap.size (Nat.le_refl _) p e ha hc hk s m _ below hf ((Spec.applies_iff_loose hf).mp happ).1 ⟨rfl, State.Warmed39.refl s, rfl⟩ trivial
  refine ⟨n, _, h1, h2, h3, hpost _ _ _ _ _ _ ⟨Cond.after_iff.mpr rfl, Cond.after_iff.mpr (eq_i res_at (Term.int_eval (1)) rfl), trivial⟩ ⟨hq.1, hq.2.1, (hq.2.2.sift fun y hy => Or.inr (N y hy)).mono (by decide) (by decide)⟩⟩
theorem main_1_1 : Claimed_1_1 := comes_1 fun _ _ _ _ _ _ h hF => ⟨h.1, hF⟩
theorem main_1_2 : Claimed_1_2 := comes_1 fun _ _ _ _ _ _ h hF => ⟨h.2.1, hF⟩
end Jvm.Pilot.@@N@@
namespace Jvm.Pilot.@@N@@
open Jvm Jvm.ClassFile Sem Op Lib Jvm.Free Jvm.Stand Jvm.Pilot.@@N@@.Jvm.D
/-! MADE BY PROGRAM (witnessworld.py) out of the Statement's table words and the real class files: 9 classes; the members and pool entries that the words name. The judged class is class 1, her method 2. -/
namespace start1
open Jvm.ClassFile
def u (s : String) : CpInfo := .utf8 (stringToUtf16 s)
/-- a pool by its gaps: so many unusable entries, then the entry; so many at the end -/
def gap : Nat → List CpInfo → List CpInfo
  | 0, r => r
  | n + 1, r => .unusable :: gap n r
def poolList (es : List (Nat × CpInfo)) (last : Nat) : List CpInfo := es.foldr (fun e r => gap e.1 (e.2 :: r)) (gap last [])
def pool (es : List (Nat × CpInfo)) (last : Nat) : Array CpInfo := ⟨poolList es last⟩
def fileOf (pool : Array CpInfo) (this : Nat) (attrs : Array Attribute := #[]) (ms : Array MethodInfo := #[]) (fl : Nat := 33) (sup : Nat := 0) (ifs : Array Nat := #[]) (fds : Array FieldInfo := #[]) : ClassFile where
  minorVersion := 0
  majorVersion := 65
  constantPool := pool
  accessFlags := fl
  thisClass := this
  superClass := sup
  interfaces := ifs
  fields := fds
  methods := ms
  attributes := attrs
def plain (name : String) (sup : Option ClassId) : Class where
  name := name
  kind := .ordinary
  loader := none
  accessFlags := 33
  super := sup
  interfaces := #[]
  cf := none
  fields := #[]
  methods := #[]
  instanceTypes := #[]
  staticTypes := #[]
  resolved := #[]
  callSites := []
  init := .initialized
  statics := none
  mirror := none

def pool0 : Array CpInfo := pool [(5, u "<init>"), (0, u "()V"), (1, .class_ 10), (1, u "java/lang/Object")] 113

def k0m0 : Method := { name := "<init>", desc := "()V", sig := { parameters := [], returnType := none }, accessFlags := 1, code := none }
/-- java/lang/Object -/
def k0 : Class := { plain "java/lang/Object" none with
  accessFlags := 33
  interfaces := #[]
  cf := some (fileOf pool0 8 #[] #[{ accessFlags := 1, nameIndex := 5, descriptorIndex := 6, attributes := #[] }] 33 0 #[] #[])
  fields := #[]
  methods := #[k0m0]
  instanceTypes := #[]
  staticTypes := #[]
  resolved := Array.replicate 124 none
  statics := none }

def pool1 : Array CpInfo := pool [(2, .class_ 4), (1, u "java/lang/Object"), (0, u "<init>"), (0, u "()V"), (0, .integer 2147483647), (0, .long 10), (1, .methodref 11 12), (0, .class_ 13), (0, .nameAndType 14 15), (0, u "com/example/corridor/corridor/nacha/Codes"), (0, u "isDebit"), (0, u "(J)Z"), (0, .methodref 17 18), (0, .class_ 19), (0, .nameAndType 20 21), (0, u "com/example/corridor/corridor/nacha/CodesIsDebitPinLaw"), (0, u "digitIsDebit"), (0, u "(I)Z"), (3, u "law"), (0, u "(JI)Z")] 2

def k1m0 : Method := { name := "<init>", desc := "()V", sig := { parameters := [], returnType := none }, accessFlags := 2, code := none }
def k1c1 : Code := { maxStack := 2, maxLocals := 1, code := method_2_code, exceptionTable := #[], attributes := #[] }
def k1m1 : Method := { name := "digitIsDebit", desc := "(I)Z", sig := { parameters := [.int], returnType := some .boolean }, accessFlags := 10, code := some k1c1 }
def k1c2 : Code := { maxStack := 4, maxLocals := 8, code := code, exceptionTable := #[], attributes := #[] }
def k1m2 : Method := { name := "law", desc := "(JI)Z", sig := { parameters := [.long, .int], returnType := some .boolean }, accessFlags := 9, code := some k1c2 }
/-- com/example/corridor/corridor/nacha/CodesIsDebitPinLaw -/
def k1 : Class := { plain "com/example/corridor/corridor/nacha/CodesIsDebitPinLaw" (some 0) with
  accessFlags := 49
  interfaces := #[]
  cf := some (fileOf pool1 17 #[] #[{ accessFlags := 2, nameIndex := 5, descriptorIndex := 6, attributes := #[] }, { accessFlags := 10, nameIndex := 20, descriptorIndex := 21, attributes := #[] }, { accessFlags := 9, nameIndex := 25, descriptorIndex := 26, attributes := #[] }] 49 2 #[] #[])
  fields := #[]
  methods := #[k1m0, k1m1, k1m2]
  instanceTypes := #[]
  staticTypes := #[]
  resolved := Array.replicate 29 none
  statics := none }

def pool2 : Array CpInfo := pool [(1, .class_ 2), (0, u "com/example/corridor/corridor/nacha/Codes"), (1, .class_ 6), (1, u "java/lang/Object"), (0, u "<init>"), (0, u "()V"), (0, .long 10), (1, .long 5), (12, u "F3X"), (42, u "RETURN_TRANSACTION_CODES"), (0, u "Ljava/util/List;"), (0, u "CREDITS_ONLY"), (0, u "Ljava/lang/String;"), (3, u "DEBITS_ONLY"), (2, u "FORMAT_CODE"), (0, u "RECORDS_PER_BLOCK"), (0, u "I"), (1, u "BATCH_RECORD_LIMIT"), (1, u "FX_REFERENCE_BLANK"), (2, u "F3X_POOLED_SETTLEMENT"), (0, u "F3X_BATCH_SETTLEMENT"), (0, u "F3X_DIGITS"), (1, u "F3X_IDENTIFIER"), (2, u "IAT_ORIGINATOR_STATUS"), (0, u "CLEARING_SYSTEM_QUALIFIER"), (2, u "UNITED_STATES"), (2, u "IAT_MANDATORY_ADDENDA"), (1, u "IAT_MAX_REMITTANCE"), (1, u "IAT_MAX_CORRESPONDENT"), (1, u "IAT_REMITTANCE"), (2, u "IAT_CORRESPONDENT"), (2, u "PLACE_SEPARATOR"), (0, u "C"), (1, u "PLACE_TERMINATOR"), (3, u "RETURN_ADDENDA"), (2, u "NOTIFICATION_ADDENDA"), (2, u "PAYMENT_ADDENDA"), (2, u "TERMINAL_ADDENDA"), (2, u "IAT_NOTIFICATION_INDICATOR"), (2, u "R04"), (1, u "R17"), (1, u "R80"), (1, u "R82"), (1, u "R83"), (1, u "R84"), (1, u "HASH_MODULUS"), (0, u "J"), (2, u "isDebit"), (0, u "(J)Z")] 9

def k2m0 : Method := { name := "<init>", desc := "()V", sig := { parameters := [], returnType := none }, accessFlags := 2, code := none }
def k2c1 : Code := { maxStack := 4, maxLocals := 2, code := prog_50_method_2_code, exceptionTable := #[], attributes := #[] }
def k2m1 : Method := { name := "isDebit", desc := "(J)Z", sig := { parameters := [.long], returnType := some .boolean }, accessFlags := 9, code := some k2c1 }
/-- com/example/corridor/corridor/nacha/Codes -/
def k2 : Class := { plain "com/example/corridor/corridor/nacha/Codes" (some 0) with
  accessFlags := 49
  interfaces := #[]
  cf := some (fileOf pool2 1 #[] #[{ accessFlags := 2, nameIndex := 7, descriptorIndex := 8, attributes := #[] }, { accessFlags := 9, nameIndex := 150, descriptorIndex := 151, attributes := #[] }] 49 4 #[] #[{ accessFlags := 25, nameIndex := 69, descriptorIndex := 70, attributes := #[] }, { accessFlags := 25, nameIndex := 74, descriptorIndex := 70, attributes := #[] }, { accessFlags := 25, nameIndex := 77, descriptorIndex := 70, attributes := #[] }, { accessFlags := 25, nameIndex := 78, descriptorIndex := 79, attributes := #[] }, { accessFlags := 25, nameIndex := 81, descriptorIndex := 79, attributes := #[] }, { accessFlags := 25, nameIndex := 83, descriptorIndex := 70, attributes := #[] }, { accessFlags := 25, nameIndex := 86, descriptorIndex := 70, attributes := #[] }, { accessFlags := 25, nameIndex := 87, descriptorIndex := 70, attributes := #[] }, { accessFlags := 25, nameIndex := 24, descriptorIndex := 70, attributes := #[] }, { accessFlags := 25, nameIndex := 88, descriptorIndex := 79, attributes := #[] }, { accessFlags := 25, nameIndex := 90, descriptorIndex := 70, attributes := #[] }, { accessFlags := 25, nameIndex := 93, descriptorIndex := 70, attributes := #[] }, { accessFlags := 25, nameIndex := 94, descriptorIndex := 70, attributes := #[] }, { accessFlags := 25, nameIndex := 97, descriptorIndex := 70, attributes := #[] }, { accessFlags := 25, nameIndex := 100, descriptorIndex := 79, attributes := #[] }, { accessFlags := 25, nameIndex := 102, descriptorIndex := 79, attributes := #[] }, { accessFlags := 25, nameIndex := 104, descriptorIndex := 79, attributes := #[] }, { accessFlags := 25, nameIndex := 106, descriptorIndex := 70, attributes := #[] }, { accessFlags := 25, nameIndex := 109, descriptorIndex := 70, attributes := #[] }, { accessFlags := 25, nameIndex := 112, descriptorIndex := 113, attributes := #[] }, { accessFlags := 25, nameIndex := 115, descriptorIndex := 113, attributes := #[] }, { accessFlags := 25, nameIndex := 67, descriptorIndex := 68, attributes := #[] }, { accessFlags := 25, nameIndex := 119, descriptorIndex := 70, attributes := #[] }, { accessFlags := 25, nameIndex := 122, descriptorIndex := 70, attributes := #[] }, { accessFlags := 25, nameIndex := 125, descriptorIndex := 70, attributes := #[] }, { accessFlags := 25, nameIndex := 128, descriptorIndex := 70, attributes := #[] }, { accessFlags := 25, nameIndex := 131, descriptorIndex := 70, attributes := #[] }, { accessFlags := 25, nameIndex := 134, descriptorIndex := 70, attributes := #[] }, { accessFlags := 25, nameIndex := 136, descriptorIndex := 70, attributes := #[] }, { accessFlags := 25, nameIndex := 138, descriptorIndex := 70, attributes := #[] }, { accessFlags := 25, nameIndex := 140, descriptorIndex := 70, attributes := #[] }, { accessFlags := 25, nameIndex := 142, descriptorIndex := 70, attributes := #[] }, { accessFlags := 25, nameIndex := 144, descriptorIndex := 70, attributes := #[] }, { accessFlags := 26, nameIndex := 146, descriptorIndex := 147, attributes := #[] }])
  fields := #[{ name := "CREDITS_ONLY", type := (.object "java/lang/String"), accessFlags := 25, slot := 0, constantValue := 0 }, { name := "DEBITS_ONLY", type := (.object "java/lang/String"), accessFlags := 25, slot := 1, constantValue := 0 }, { name := "FORMAT_CODE", type := (.object "java/lang/String"), accessFlags := 25, slot := 2, constantValue := 0 }, { name := "RECORDS_PER_BLOCK", type := .int, accessFlags := 25, slot := 3, constantValue := 0 }, { name := "BATCH_RECORD_LIMIT", type := .int, accessFlags := 25, slot := 4, constantValue := 0 }, { name := "FX_REFERENCE_BLANK", type := (.object "java/lang/String"), accessFlags := 25, slot := 5, constantValue := 0 }, { name := "F3X_POOLED_SETTLEMENT", type := (.object "java/lang/String"), accessFlags := 25, slot := 6, constantValue := 0 }, { name := "F3X_BATCH_SETTLEMENT", type := (.object "java/lang/String"), accessFlags := 25, slot := 7, constantValue := 0 }, { name := "F3X", type := (.object "java/lang/String"), accessFlags := 25, slot := 8, constantValue := 0 }, { name := "F3X_DIGITS", type := .int, accessFlags := 25, slot := 9, constantValue := 0 }, { name := "F3X_IDENTIFIER", type := (.object "java/lang/String"), accessFlags := 25, slot := 10, constantValue := 0 }, { name := "IAT_ORIGINATOR_STATUS", type := (.object "java/lang/String"), accessFlags := 25, slot := 11, constantValue := 0 }, { name := "CLEARING_SYSTEM_QUALIFIER", type := (.object "java/lang/String"), accessFlags := 25, slot := 12, constantValue := 0 }, { name := "UNITED_STATES", type := (.object "java/lang/String"), accessFlags := 25, slot := 13, constantValue := 0 }, { name := "IAT_MANDATORY_ADDENDA", type := .int, accessFlags := 25, slot := 14, constantValue := 0 }, { name := "IAT_MAX_REMITTANCE", type := .int, accessFlags := 25, slot := 15, constantValue := 0 }, { name := "IAT_MAX_CORRESPONDENT", type := .int, accessFlags := 25, slot := 16, constantValue := 0 }, { name := "IAT_REMITTANCE", type := (.object "java/lang/String"), accessFlags := 25, slot := 17, constantValue := 0 }, { name := "IAT_CORRESPONDENT", type := (.object "java/lang/String"), accessFlags := 25, slot := 18, constantValue := 0 }, { name := "PLACE_SEPARATOR", type := .char, accessFlags := 25, slot := 19, constantValue := 0 }, { name := "PLACE_TERMINATOR", type := .char, accessFlags := 25, slot := 20, constantValue := 0 }, { name := "RETURN_TRANSACTION_CODES", type := (.object "java/util/List"), accessFlags := 25, slot := 21, constantValue := 0 }, { name := "RETURN_ADDENDA", type := (.object "java/lang/String"), accessFlags := 25, slot := 22, constantValue := 0 }, { name := "NOTIFICATION_ADDENDA", type := (.object "java/lang/String"), accessFlags := 25, slot := 23, constantValue := 0 }, { name := "PAYMENT_ADDENDA", type := (.object "java/lang/String"), accessFlags := 25, slot := 24, constantValue := 0 }, { name := "TERMINAL_ADDENDA", type := (.object "java/lang/String"), accessFlags := 25, slot := 25, constantValue := 0 }, { name := "IAT_NOTIFICATION_INDICATOR", type := (.object "java/lang/String"), accessFlags := 25, slot := 26, constantValue := 0 }, { name := "R04", type := (.object "java/lang/String"), accessFlags := 25, slot := 27, constantValue := 0 }, { name := "R17", type := (.object "java/lang/String"), accessFlags := 25, slot := 28, constantValue := 0 }, { name := "R80", type := (.object "java/lang/String"), accessFlags := 25, slot := 29, constantValue := 0 }, { name := "R82", type := (.object "java/lang/String"), accessFlags := 25, slot := 30, constantValue := 0 }, { name := "R83", type := (.object "java/lang/String"), accessFlags := 25, slot := 31, constantValue := 0 }, { name := "R84", type := (.object "java/lang/String"), accessFlags := 25, slot := 32, constantValue := 0 }, { name := "HASH_MODULUS", type := .long, accessFlags := 26, slot := 33, constantValue := 0 }]
  methods := #[k2m0, k2m1]
  instanceTypes := #[]
  staticTypes := #[(.object "java/lang/String"), (.object "java/lang/String"), (.object "java/lang/String"), .int, .int, (.object "java/lang/String"), (.object "java/lang/String"), (.object "java/lang/String"), (.object "java/lang/String"), .int, (.object "java/lang/String"), (.object "java/lang/String"), (.object "java/lang/String"), (.object "java/lang/String"), .int, .int, .int, (.object "java/lang/String"), (.object "java/lang/String"), .char, .char, (.object "java/util/List"), (.object "java/lang/String"), (.object "java/lang/String"), (.object "java/lang/String"), (.object "java/lang/String"), (.object "java/lang/String"), (.object "java/lang/String"), (.object "java/lang/String"), (.object "java/lang/String"), (.object "java/lang/String"), (.object "java/lang/String"), (.object "java/lang/String"), .long]
  resolved := Array.replicate 161 none
  statics := none }

def pool3 : Array CpInfo := pool [(1, u "java/lang/Cloneable"), (0, .class_ 1), (0, u "java/lang/Object"), (0, .class_ 3)] 3

/-- java/lang/Cloneable -/
def k3 : Class := { plain "java/lang/Cloneable" (some 0) with
  accessFlags := 1537
  interfaces := #[]
  cf := some (fileOf pool3 2 #[] #[] 1537 4 #[] #[])
  fields := #[]
  methods := #[]
  instanceTypes := #[]
  staticTypes := #[]
  resolved := Array.replicate 8 none
  statics := none }

def pool4 : Array CpInfo := pool [(1, u "java/io/Serializable"), (0, .class_ 1), (0, u "java/lang/Object"), (0, .class_ 3)] 3

/-- java/io/Serializable -/
def k4 : Class := { plain "java/io/Serializable" (some 0) with
  accessFlags := 1537
  interfaces := #[]
  cf := some (fileOf pool4 2 #[] #[] 1537 4 #[] #[])
  fields := #[]
  methods := #[]
  instanceTypes := #[]
  staticTypes := #[]
  resolved := Array.replicate 8 none
  statics := none }

/-- the primitive byte -/
def k5 : Class := { plain "byte" none with kind := .primitive 'B', accessFlags := 0x411 }
/-- [B -/
def k6 : Class := { plain "[B" (some 0) with kind := .array 5 .byte, interfaces := #[3, 4], accessFlags := 1041 }

/-- the primitive int -/
def k7 : Class := { plain "int" none with kind := .primitive 'I', accessFlags := 0x411 }
/-- [I -/
def k8 : Class := { plain "[I" (some 0) with kind := .array 7 .int, interfaces := #[3, 4], accessFlags := 1041 }

def heap : Heap := #[]
def classes : Array Class := #[k0, k1, k2, k3, k4, k5, k6, k7, k8]
def interned : List (Array UInt16 × Addr) := []
def slotsUsed : Nat := 0
def theMethod : MethodId := ⟨1, 2⟩
def args0 : Array Value := #[.long 5, .int 5]
def aboutOver (below : List Frame) : State where
  vm := { classes := classes, interned := interned.toArray }
  heap := heap
  slotsUsed := slotsUsed
  threads := #[{ frames := .invoking theMethod args0 :: below }]
def below0 : List Frame := [.native { method := ⟨0, 0⟩, args := #[] }]
def about1 : State := aboutOver below0
def p0 : Program := .bare "" "" ""
def e0 : Env := launch0.env 0 0 0
theorem w_frames : about1.frames = Frame.invoking theMethod args0 :: below0 := rfl
set_option maxRecDepth 65536 in
theorem w_args : argsFit about1.vm theMethod args0 = true := by decide +kernel
set_option maxRecDepth 65536 in
theorem w_heap : heapFits about1 = true := by decide +kernel
set_option maxRecDepth 65536 in
theorem w_runnable : about1.curStatus? = some .runnable := by decide +kernel
set_option maxRecDepth 65536 in
theorem w_alone : about1.alone = true := by decide +kernel
set_option maxRecDepth 65536 in
theorem w_named : about1.methodNamed? x = some theMethod := by decide +kernel
set_option maxRecDepth 65536 in
theorem w_hears : about1.hears theMethod below0 = true := by decide +kernel
set_option maxRecDepth 65536 in
theorem w_ripe : about1.ripe theMethod args0 below0 = true := by decide +kernel
theorem w_running : about1.status = .running := rfl
set_option maxRecDepth 65536 in
theorem w_room : about1.hasRoom e0.platform room_1 = true :=
  launch0.hasRoom_least _ room_1 (by decide +kernel) (by decide +kernel) (by decide +kernel) (by decide +kernel) (by decide +kernel) (by decide +kernel)
theorem allAtoms_all (ts : List Jvm.Cond) (a : Array Jvm.Value) (st : Jvm.State) : (allAtoms ts).before a st = ts.all (fun c => c.before a st) := by
  induction ts with
  | nil => rfl
  | cons c t ih =>
    show (Jvm.Cond.and c (allAtoms t)).before a st = _
    rw [Jvm.Cond.before_and, ih, List.all_cons]
def words1 : List Jvm.Cond := Jvm.Cond.code x code maxLocals ret :: tables_1
/-- a 'code' word, met by the world's own term for the bytes: nothing is compared byte by byte -/
theorem code_word {y : MethodName} {bytes : ByteArray} {mx : Nat} {rt : Option FieldType} {a : Array Value} {s : State} {m : MethodId} {meth : Method} {c : Code} (h1 : s.methodNamed? y = some m) (h2 : s.vm.method? m = some meth) (h3 : meth.code = some c) (h4 : c.code = bytes)
    (h5 : (c.maxLocals == mx && c.exceptionTable.isEmpty && decide (c.maxStack ≤ mostOperands) && decide (meth.sig.returnType = rt) && !meth.locks && decide (parseMethodDescriptor y.desc = some meth.sig)) = true) : (Jvm.Cond.code y bytes mx rt).before a s = true := by
  simp only [Bool.and_eq_true, beq_iff_eq, Bool.not_eq_true', decide_eq_true_eq] at h5
  obtain ⟨⟨⟨⟨⟨g1, g2⟩, g3⟩, g4⟩, g5⟩, g6⟩ := h5
  simp [Cond.before, Cond.holds, Cond.value, h1, h2, h3, h4, g1, g2, g3, g4, g5, g6]
def isCode : Jvm.Cond → Bool
  | .code _ _ _ _ => true
  | _ => false
theorem all_split {L : List Jvm.Cond} {P : Jvm.Cond → Bool} (h1 : L.all (fun c => isCode c || P c) = true) (h2 : ∀ c ∈ L.filter isCode, P c = true) : L.all P = true := by
  refine List.all_eq_true.mpr fun c hc => ?_
  have h := List.all_eq_true.mp h1 c hc
  rcases Bool.eq_false_or_eq_true (isCode c) with hi | hi
  · exact h2 c (List.mem_filter.mpr ⟨hc, hi⟩)
  · simpa [hi] using h
set_option maxRecDepth 65536 in
theorem w_c0 : (Jvm.Cond.code x code maxLocals ret).before args0 about1 = true := code_word (m := ⟨1, 2⟩) (meth := k1m2) (c := k1c2) (by decide +kernel) rfl rfl rfl (by decide +kernel)
set_option maxRecDepth 65536 in
theorem w_c1 : (Jvm.Cond.code ({ cls := "com/example/corridor/corridor/nacha/Codes", name := "isDebit", desc := "(J)Z" } : Jvm.MethodName) prog_50_method_2_code (2 : Nat) (Option.some Jvm.ClassFile.FieldType.boolean)).before args0 about1 = true := code_word (m := ⟨2, 1⟩) (meth := k2m1) (c := k2c1) (by decide +kernel) rfl rfl rfl (by decide +kernel)
set_option maxRecDepth 65536 in
theorem w_c2 : (Jvm.Cond.code ({ cls := "com/example/corridor/corridor/nacha/CodesIsDebitPinLaw", name := "digitIsDebit", desc := "(I)Z" } : Jvm.MethodName) method_2_code (1 : Nat) (Option.some Jvm.ClassFile.FieldType.boolean)).before args0 about1 = true := code_word (m := ⟨1, 1⟩) (meth := k1m1) (c := k1c1) (by decide +kernel) rfl rfl rfl (by decide +kernel)
def codes1 : List Jvm.Cond := [Jvm.Cond.code x code maxLocals ret, Jvm.Cond.code ({ cls := "com/example/corridor/corridor/nacha/Codes", name := "isDebit", desc := "(J)Z" } : Jvm.MethodName) prog_50_method_2_code (2 : Nat) (Option.some Jvm.ClassFile.FieldType.boolean), Jvm.Cond.code ({ cls := "com/example/corridor/corridor/nacha/CodesIsDebitPinLaw", name := "digitIsDebit", desc := "(I)Z" } : Jvm.MethodName) method_2_code (1 : Nat) (Option.some Jvm.ClassFile.FieldType.boolean)]
set_option maxRecDepth 65536 in
theorem codes_eq : words1.filter isCode = codes1 := rfl
theorem w_codes : ∀ c ∈ words1.filter isCode, c.before args0 about1 = true := by
  rw [codes_eq]
  intro c hc
  simp only [codes1, List.mem_cons, List.not_mem_nil, or_false] at hc
  rcases hc with rfl | rfl | rfl
  · exact w_c0
  · exact w_c1
  · exact w_c2
set_option maxRecDepth 65536 in
theorem w_t1 : words1.all (fun c => isCode c || c.before args0 about1) = true := by decide +kernel
theorem w_tables : (allAtoms (Jvm.Cond.code x code maxLocals ret :: tables_1)).before args0 about1 = true := by
  rw [allAtoms_all]
  show words1.all (fun c => c.before args0 about1) = true
  refine all_split ?_ w_codes
  rw [w_t1]
set_option maxRecDepth 65536 in
theorem w_case : (Jvm.Cond.and given_1 narrow_1).before args0 about1 = true := by decide +kernel
theorem w_applies : (headSpec (Jvm.Cond.code x code maxLocals ret :: tables_1) room_1).applies x e0.platform about1 = true :=
  (Spec.applies_iff w_frames).mpr ⟨w_running, w_runnable, w_alone, w_named, w_hears, w_ripe, w_room, w_tables⟩
theorem atStart : AtStart classFile x code maxLocals ret World_1 tables_1 room_1 Calls_1 rest_1 Pre_1 launch0 p0 e0 about1 theMethod args0 below0 :=
  ⟨lists_1, trivial, launch0.admits_env _ _ _, launch0.least_env, fairChoices_fair.cas, fairChoices_fair.clock, w_frames, w_args, w_heap, w_applies, trivial, trivial, w_case⟩
end start1
theorem witness_1 : WitnessClaimed_1 := ⟨start1.p0, start1.e0, start1.about1, start1.theMethod, start1.args0, start1.below0, start1.atStart⟩
end Jvm.Pilot.@@N@@
