import JvmDerived
import JvmDerived.Pilot.@@N@@Statement
import JvmDerived.Pilot.@@N@@Code
set_option linter.unusedVariables false
set_option linter.unusedSimpArgs false
namespace Jvm.Pilot.@@N@@
open Jvm Jvm.ClassFile Sem Op Lib Jvm.Free Jvm.Stand Jvm.LawKit Jvm.RoadKit Bundle Jvm.Pilot.@@N@@.Jvm.D
/-- the run from F ends, with an outcome and a state that Φ takes -/
def own_Goes (p : Program) (e : Env) (below : List Frame) (Φ : Outcome → State → Prop) (F : State) : Prop :=
  ∃ s₂ o, Steps p.tables e below F s₂ ∧ s₂.status = .running ∧ Ended s₂ below o ∧ Φ o s₂
theorem own_go {p : Program} {e : Env} {below : List Frame} {Φ : Outcome → State → Prop} {F G : State}
    (k : ∀ t, Steps p.tables e below G t → Steps p.tables e below F t) (h : own_Goes p e below Φ G) : own_Goes p e below Φ F := by
  obtain ⟨s₂, o, h1, h2⟩ := h
  exact ⟨s₂, o, k _ h1, h2⟩
/-- what a contract says of the end -/
def own_End (s : State) (Q : Option Value → Heap → List Loc → Prop) (k n : Nat) (o : Outcome) (U' : State) : Prop :=
  ∃ v L, o = .returned v ∧ Q v U'.heap L ∧ FrameEnd s o U' L k n
/-- a value is returned, the heap is as it was -/
def own_Same (w : Value) (h0 : Heap) (n0 : Nat) (v : Option Value) (h : Heap) (L : List Loc) : Prop := v = some w ∧ Fr n0 L ∧ h = h0
/-- nothing is returned, the heap is as it was -/
def own_SameV (h0 : Heap) (n0 : Nat) (v : Option Value) (h : Heap) (L : List Loc) : Prop := v = none ∧ Fr n0 L ∧ h = h0
section Own
variable {p : Program} {l : Launch} {e : Env} {R : Room} {s : State} {m : MethodId} {args : Array Value} {below : List Frame} {meth : Method} {c : Code} {T : State} {locs : List Loc} {cells slots : Nat}
theorem own_ret (X : Stand p l e R s m args below meth c T locs cells slots) (hx : p.tables.exec = Jvm.exec) {pc : Nat} {Ls : Array Slot} {w : Value} {t : FieldType} {i : Instr} {rest : List Value} (hret : meth.sig.returnType = some t) (hn : narrow t w = w)
    (hi : (i = .ireturn ∧ (t = .int ∨ t = .boolean ∨ t = .byte ∨ t = .char ∨ t = .short) ∧ ∃ z, w = .int z) ∨ (i = .lreturn ∧ t = .long ∧ ∃ z, w = .long z) ∨ (i = .dreturn ∧ t = .double ∧ ∃ z, w = .double z) ∨ (i = .freturn ∧ t = .float ∧ ∃ z, w = .float z) ∨ (i = .areturn ∧ t.isReference = true ∧ w.isRef = true))
    (hd : decode c.code pc = .ok (i, 1)) (hlk : meth.locks = false) {Q : Option Value → Heap → List Loc → Prop} {k n : Nat} (h1 : cells ≤ k) (h2 : slots ≤ n) (hQ : Q (some w) T.heap locs) :
    own_Goes p e below (own_End s Q k n) (T.setTop (mkF m pc Ls (w :: rest))) := by
  obtain ⟨fs, hr, hrun, hended, hW, hsame⟩ := X.leave (v := some w) (fun h => by rw [hret] at h; cases h) hlk
  exact ⟨_, _, retOut X hx hret hn hi hd hr, hrun, hended, _, _, rfl, hQ, ⟨_, rfl⟩, hW, hsame.mono h1 h2⟩
theorem own_retI (X : Stand p l e R s m args below meth c T locs cells slots) (hx : p.tables.exec = Jvm.exec) {pc : Nat} {Ls : Array Slot} {z : Int32} {rest : List Value} (hret : meth.sig.returnType = some .int)
    (hd : decode c.code pc = .ok (.ireturn, 1)) (hlk : meth.locks = false) {Q : Option Value → Heap → List Loc → Prop} {k n : Nat} (h1 : cells ≤ k) (h2 : slots ≤ n) (hQ : Q (some (.int z)) T.heap locs) :
    own_Goes p e below (own_End s Q k n) (T.setTop (mkF m pc Ls (.int z :: rest))) := own_ret X hx hret rfl (Or.inl ⟨rfl, Or.inl rfl, z, rfl⟩) hd hlk h1 h2 hQ
theorem own_retJ (X : Stand p l e R s m args below meth c T locs cells slots) (hx : p.tables.exec = Jvm.exec) {pc : Nat} {Ls : Array Slot} {z : Int64} {rest : List Value} (hret : meth.sig.returnType = some .long)
    (hd : decode c.code pc = .ok (.lreturn, 1)) (hlk : meth.locks = false) {Q : Option Value → Heap → List Loc → Prop} {k n : Nat} (h1 : cells ≤ k) (h2 : slots ≤ n) (hQ : Q (some (.long z)) T.heap locs) :
    own_Goes p e below (own_End s Q k n) (T.setTop (mkF m pc Ls (.long z :: rest))) := own_ret X hx hret rfl (Or.inr (Or.inl ⟨rfl, rfl, z, rfl⟩)) hd hlk h1 h2 hQ
theorem own_retB (X : Stand p l e R s m args below meth c T locs cells slots) (hx : p.tables.exec = Jvm.exec) {pc : Nat} {Ls : Array Slot} {z : Int32} {rest : List Value} (hret : meth.sig.returnType = some .boolean) (hz : z = 0 ∨ z = 1)
    (hd : decode c.code pc = .ok (.ireturn, 1)) (hlk : meth.locks = false) {Q : Option Value → Heap → List Loc → Prop} {k n : Nat} (h1 : cells ≤ k) (h2 : slots ≤ n) (hQ : Q (some (.int z)) T.heap locs) :
    own_Goes p e below (own_End s Q k n) (T.setTop (mkF m pc Ls (.int z :: rest))) := own_ret X hx hret (by rcases hz with rfl | rfl <;> rfl) (Or.inl ⟨rfl, Or.inr (Or.inl rfl), z, rfl⟩) hd hlk h1 h2 hQ
theorem own_ret1 (X : Stand p l e R s m args below meth c T locs cells slots) (hx : p.tables.exec = Jvm.exec) {pc : Nat} {Ls : Array Slot} {rest : List Value} (hret : meth.sig.returnType = some .boolean)
    (hd : decode c.code pc = .ok (.ireturn, 1)) (hlk : meth.locks = false) {Q : Option Value → Heap → List Loc → Prop} {k n : Nat} (h1 : cells ≤ k) (h2 : slots ≤ n) (hQ : Q (some (.int 1)) T.heap locs) :
    own_Goes p e below (own_End s Q k n) (T.setTop (mkF m pc Ls (.int 1 :: rest))) := own_retB X hx hret (Or.inr rfl) hd hlk h1 h2 hQ
theorem own_ret0 (X : Stand p l e R s m args below meth c T locs cells slots) (hx : p.tables.exec = Jvm.exec) {pc : Nat} {Ls : Array Slot} {rest : List Value} (hret : meth.sig.returnType = some .boolean)
    (hd : decode c.code pc = .ok (.ireturn, 1)) (hlk : meth.locks = false) {Q : Option Value → Heap → List Loc → Prop} {k n : Nat} (h1 : cells ≤ k) (h2 : slots ≤ n) (hQ : Q (some (.int 0)) T.heap locs) :
    own_Goes p e below (own_End s Q k n) (T.setTop (mkF m pc Ls (.int 0 :: rest))) := own_retB X hx hret (Or.inl rfl) hd hlk h1 h2 hQ
theorem own_retN (X : Stand p l e R s m args below meth c T locs cells slots) (hx : p.tables.exec = Jvm.exec) {pc : Nat} {Ls : Array Slot} {z : Int32} {t : FieldType} {rest : List Value} (hret : meth.sig.returnType = some t) (ht : t = .boolean ∨ t = .byte ∨ t = .char ∨ t = .short)
    (hd : decode c.code pc = .ok (.ireturn, 1)) (hlk : meth.locks = false) {Q : Option Value → Heap → List Loc → Prop} {k n : Nat} (h1 : cells ≤ k) (h2 : slots ≤ n) (hQ : Q (some (.int (nar t z))) T.heap locs) :
    own_Goes p e below (own_End s Q k n) (T.setTop (mkF m pc Ls (.int z :: rest))) := by
  obtain ⟨fs, hr, hrun, hended, hW, hsame⟩ := X.leave (v := some (.int (nar t z))) (fun h => by rw [hret] at h; cases h) hlk
  exact ⟨_, _, retN X hx hret ht hd hr, hrun, hended, _, _, rfl, hQ, ⟨_, rfl⟩, hW, hsame.mono h1 h2⟩
theorem own_retA (X : Stand p l e R s m args below meth c T locs cells slots) (hx : p.tables.exec = Jvm.exec) {pc : Nat} {Ls : Array Slot} {w : Value} {t : FieldType} {rest : List Value} (hret : meth.sig.returnType = some t) (ht : t.isReference = true) (hw : w.isRef = true)
    (hd : decode c.code pc = .ok (.areturn, 1)) (hlk : meth.locks = false) {Q : Option Value → Heap → List Loc → Prop} {k n : Nat} (h1 : cells ≤ k) (h2 : slots ≤ n) (hQ : Q (some w) T.heap locs) :
    own_Goes p e below (own_End s Q k n) (T.setTop (mkF m pc Ls (w :: rest))) := own_ret X hx hret (by cases t <;> first | rfl | cases ht) (Or.inr (Or.inr (Or.inr (Or.inr ⟨rfl, ht, hw⟩)))) hd hlk h1 h2 hQ
theorem own_retV (X : Stand p l e R s m args below meth c T locs cells slots) (hx : p.tables.exec = Jvm.exec) {pc : Nat} {Ls : Array Slot} (hret : meth.sig.returnType = none)
    (hd : decode c.code pc = .ok (.return_, 1)) (hlk : meth.locks = false) {Q : Option Value → Heap → List Loc → Prop} {k n : Nat} (h1 : cells ≤ k) (h2 : slots ≤ n) (hQ : Q none T.heap locs) :
    own_Goes p e below (own_End s Q k n) (T.setTop (mkF m pc Ls [])) := by
  obtain ⟨fs, hr, hrun, hended, hW, hsame⟩ := X.leave (v := none) (fun _ => rfl) hlk
  exact ⟨_, _, X.returnOut hx hret hd hr, hrun, hended, _, _, rfl, hQ, ⟨_, rfl⟩, hW, hsame.mono h1 h2⟩
end Own
/-- the law says true; nothing old is written -/
def own_True (n0 : Nat) (v : Option Value) (h : Heap) (L : List Loc) : Prop := v = some (.int 1) ∧ Fr n0 L
theorem own_i (x y : Int32) : (x = y ↔ x.toInt = y.toInt) ∧ (x < y ↔ x.toInt < y.toInt) ∧ (x ≤ y ↔ x.toInt ≤ y.toInt) := ⟨Int32.toInt_inj.symm, Int32.lt_iff_toInt_lt, Int32.le_iff_toInt_le⟩
theorem own_ie (x y : Int32) : x = y ↔ x.toInt = y.toInt := Int32.toInt_inj.symm
theorem own_le (x y : Int64) : x = y ↔ x.toInt = y.toInt := Int64.toInt_inj.symm
/-- an array of which the kind and the length alone are told -/
def own_A (Z : State) (h : Heap) (a : Addr) (ty : FieldType) (n : Int32) : Prop := ∃ c : Cell, Arr Z h a c ty ∧ c.slots.size = n.toNatClampNeg ∧ ¬ n < 0
section OwnA
variable {Z : State} {h h' : Heap} {a b : Addr} {ty : FieldType} {n : Int32} {sl : Nat} {v : Value} {ws : List Addr}
theorem own_A.lt (F : own_A Z h a ty n) : a < h.size := by obtain ⟨c, A, -⟩ := F; exact A.lt
theorem own_A.ext (F : own_A Z h a ty n) (E : Ext h h') : own_A Z h' a ty n := by obtain ⟨c, A, r⟩ := F; exact ⟨c, A.ext E, r⟩
theorem own_A.other (F : own_A Z h b ty n) (W : Wr h h' a sl v) (q : b ≠ a) : own_A Z h' b ty n := by obtain ⟨c, A, r⟩ := F; exact ⟨c, A.other W q, r⟩
theorem own_A.same (F : own_A Z h a ty n) (W : Wr h h' a sl v) : own_A Z h' a ty n := by
  obtain ⟨c, A, r1, r2⟩ := F
  exact ⟨_, A.same W, by rw [← r1]; simp [Cell.setSlot], r2⟩
theorem own_A.keep (F : own_A Z h a ty n) (K : Keep h h' ws) (q : a ∉ ws) : own_A Z h' a ty n := by obtain ⟨c, A, r⟩ := F; exact ⟨c, ⟨K.2.1 a c A.1 q, A.2⟩, r⟩
theorem own_A.of {k : ClassId} {vs : List Value} {d : Value} (F : Arv Z h a k ty n vs d) : own_A Z h a ty n := by obtain ⟨c, A, -, r1, r2, -⟩ := F; exact ⟨c, A, r1, r2⟩
end OwnA
theorem own_staKeep {Z : State} {h h' : Heap} {C n d : String} {v : Value} (F : Sta Z h C n d v) (K : Keep h h' []) : Sta Z h' C n d v := by
  obtain ⟨cf, i, k, f, st, cell, h1, h2, h3, h4, h5, r⟩ := F
  exact ⟨cf, i, k, f, st, cell, h1, h2, h3, h4, K.2.1 _ _ h5 nin0, r⟩
def Q1 (Z : State) (r0 : Addr) (p1 : Int32) (h0 : Heap) (n0 : Nat) (v : Option Value) (h : Heap) (L : List Loc) : Prop := v = none ∧ Fr n0 L ∧ Keep h0 h [r0] ∧ Exa Z h r0 "com/example/mave/mave/engine/StateGraph" ∧ Fld Z h r0 "com/example/mave/mave/engine/StateGraph" "words" "I" (.int (((p1 + (64 : Int32)) - (1 : Int32)) / (64 : Int32))) ∧ ∃ (b : Addr) (k : ClassId), n0 ≤ b ∧ h0.size ≤ b ∧ Fld Z h r0 "com/example/mave/mave/engine/StateGraph" "labels" "[J" (.ref b) ∧ Arv Z h b k .long (1024 : Int32) [] (.long (0 : Int64))
theorem d1_0 : decode prog_31_method_1_code 0 = .ok (.aload_n 0, 1) := by decide +kernel
theorem d1_1 : decode prog_31_method_1_code 1 = .ok (.invokespecial 3, 3) := by decide +kernel
theorem d1_4 : decode prog_31_method_1_code 4 = .ok (.aload_n 0, 1) := by decide +kernel
theorem d1_5 : decode prog_31_method_1_code 5 = .ok (.sipush 1024, 3) := by decide +kernel
theorem d1_8 : decode prog_31_method_1_code 8 = .ok (.newarray .long, 2) := by decide +kernel
theorem d1_10 : decode prog_31_method_1_code 10 = .ok (.putfield 9, 3) := by decide +kernel
theorem d1_13 : decode prog_31_method_1_code 13 = .ok (.aload_n 0, 1) := by decide +kernel
theorem d1_14 : decode prog_31_method_1_code 14 = .ok (.sipush 1024, 3) := by decide +kernel
theorem d1_17 : decode prog_31_method_1_code 17 = .ok (.newarray .int, 2) := by decide +kernel
theorem d1_19 : decode prog_31_method_1_code 19 = .ok (.putfield 15, 3) := by decide +kernel
theorem d1_22 : decode prog_31_method_1_code 22 = .ok (.aload_n 0, 1) := by decide +kernel
theorem d1_23 : decode prog_31_method_1_code 23 = .ok (.sipush 1024, 3) := by decide +kernel
theorem d1_26 : decode prog_31_method_1_code 26 = .ok (.newarray .int, 2) := by decide +kernel
theorem d1_28 : decode prog_31_method_1_code 28 = .ok (.putfield 19, 3) := by decide +kernel
theorem d1_31 : decode prog_31_method_1_code 31 = .ok (.aload_n 0, 1) := by decide +kernel
theorem d1_32 : decode prog_31_method_1_code 32 = .ok (.sipush 1024, 3) := by decide +kernel
theorem d1_35 : decode prog_31_method_1_code 35 = .ok (.newarray .int, 2) := by decide +kernel
theorem d1_37 : decode prog_31_method_1_code 37 = .ok (.putfield 22, 3) := by decide +kernel
theorem d1_40 : decode prog_31_method_1_code 40 = .ok (.aload_n 0, 1) := by decide +kernel
theorem d1_41 : decode prog_31_method_1_code 41 = .ok (.iload_n 1, 1) := by decide +kernel
theorem d1_42 : decode prog_31_method_1_code 42 = .ok (.bipush 64, 2) := by decide +kernel
theorem d1_44 : decode prog_31_method_1_code 44 = .ok (.iadd, 1) := by decide +kernel
theorem d1_45 : decode prog_31_method_1_code 45 = .ok (.iconst 1, 1) := by decide +kernel
theorem d1_46 : decode prog_31_method_1_code 46 = .ok (.isub, 1) := by decide +kernel
theorem d1_47 : decode prog_31_method_1_code 47 = .ok (.bipush 64, 2) := by decide +kernel
theorem d1_49 : decode prog_31_method_1_code 49 = .ok (.idiv, 1) := by decide +kernel
theorem d1_50 : decode prog_31_method_1_code 50 = .ok (.putfield 27, 3) := by decide +kernel
theorem d1_53 : decode prog_31_method_1_code 53 = .ok (.return_, 1) := by decide +kernel
theorem pn1 : plainName "com/example/mave/mave/engine/StateGraph" = true := by first | (simp [plainName, overriddenIn]; done) | decide +kernel
theorem ef_rm1 (m : MethodId) (r0 : Addr) (p1 : Int32) : entryFrame m #[(.ref r0), (.int p1)] 2 = mkF m 0 #[.val (.ref r0), .val (.int p1)] [] := by first | (simp [entryFrame, mkF, argsToLocals, Value.category]; done) | rfl
set_option maxRecDepth 65536 in
set_option maxHeartbeats 40000000 in
theorem rm1 (l : Launch) (Z : State) (a0 : Array Value) (hw : ∀ d ∈ tables_1, d.before a0 Z = true) (ws : List Jvm.Cond) (r0 : Addr) (p1 : Int32) (h0 : Heap) (n0 : Nat) (Z0 : n0 ≤ h0.size) (F_labels_r0 : Fld Z h0 r0 "com/example/mave/mave/engine/StateGraph" "labels" "[J" .null) (F_firsts_r0 : Fld Z h0 r0 "com/example/mave/mave/engine/StateGraph" "firsts" "[I" .null) (F_targets_r0 : Fld Z h0 r0 "com/example/mave/mave/engine/StateGraph" "targets" "[I" .null) (F_movers_r0 : Fld Z h0 r0 "com/example/mave/mave/engine/StateGraph" "movers" "[I" .null) (F_words_r0 : Fld Z h0 r0 "com/example/mave/mave/engine/StateGraph" "words" "I" (.int (0 : Int32))) (E_r0 : Exa Z h0 r0 "com/example/mave/mave/engine/StateGraph") (gn_r0 : n0 ≤ r0) :
    MetFree l (⟨"com/example/mave/mave/engine/StateGraph", "<init>", "(I)V"⟩ : MethodName) (head1 (Jvm.Cond.code (⟨"com/example/mave/mave/engine/StateGraph", "<init>", "(I)V"⟩ : MethodName) prog_31_method_1_code 2 none :: ws) ({ frames := 1, cells := 4, slots := 4096, locals := 12 } : Room)) (fun a U => a = #[(.ref r0), (.int p1)] ∧ Z.Warmed39 U.vm ∧ U.heap = h0) (fun _ _ _ _ _ => True) (fun _ U o U' => ∃ v L, o = .returned v ∧ (Q1 Z r0 p1 h0 n0) v U'.heap L ∧ FrameEnd U o U' L 4 4096) := by
  refine MetFree.of_bodySF (plainFor_of_name pn1) hisR ?_
  intro p e s m args below meth c s₁ Bd hml0 hP hK
  obtain ⟨rfl, hZ, hh⟩ := hP
  have hx := Bd.exec
  have hby := Bd.bytes
  have hml : c.maxLocals = 2 := hml0
  have hown : s.vm.findClass "com/example/mave/mave/engine/StateGraph" = some m.cls := findClass_of_methodNamed Bd.named
  have hnm := (name_of_methodNamed Bd.named Bd.method).1
  have X0 : Stand p l e ({ frames := 1, cells := 4, slots := 4096, locals := 12 } : Room) s m #[(.ref r0), (.int p1)] below meth c s₁ [] 0 0 := Stand.of_body Bd
  have e0 : s₁.heap = h0 := by rw [← hh, Bd.state]; rfl
  have N0 := Fr.nil n0
  have K0 : Keep h0 h0 [r0] := Keep.refl h0 [r0]
  show own_Goes p e below (own_End s (Q1 Z r0 p1 h0 n0) 4 4096) _
  refine own_go (G := s₁.setTop (mkF m 0 #[.val (.ref r0), .val (.int p1)] [])) (fun t k => castTop (ef_rm1 m r0 p1) k) ?_
  refine own_go (G := s₁.setTop (mkF m 1 #[.val (.ref r0), .val (.int p1)] [(.ref r0)])) (fun _ k => XS.aloadN X0.here hx rfl (hb hby d1_0) rfl rfl k) ?_
  obtain ⟨T1, X1, e1, st1⟩ := initO X0 hx hZ hown (hw _ (List.mem_of_getElem? (i := 7) rfl)) (hw _ (List.mem_of_getElem? (i := 8) rfl)) (hw _ (List.mem_of_getElem? (i := 9) rfl)) e0 (g := (mkF m 1 #[.val (.ref r0), .val (.int p1)] [(.ref r0)])) rfl (by rw [hml]; rfl) rfl (hb hby d1_1) (by decide) (W := 0) (by show 2 * 0 + _ ≤ _; exact Nat.le_of_eq rfl) (by decide)
  refine own_go (G := T1.setTop (mkF m 4 #[.val (.ref r0), .val (.int p1)] [])) (st1) ?_
  refine own_go (G := T1.setTop (mkF m 5 #[.val (.ref r0), .val (.int p1)] [(.ref r0)])) (fun _ k => XS.aloadN X1.here hx rfl (hb hby d1_4) rfl rfl k) ?_
  refine own_go (G := T1.setTop (mkF m 8 #[.val (.ref r0), .val (.int p1)] [(.int (1024 : Int32)), (.ref r0)])) (fun _ k => XS.sipush X1.here hx rfl (hb hby d1_5) k) ?_
  obtain ⟨T2, h2, k2, X2, e2, E2, A2, st2⟩ := newP X1 hx hZ (hw _ (List.mem_of_getElem? (i := 0) rfl)) e1 (g := (mkF m 8 #[.val (.ref r0), .val (.int p1)] [(.int (1024 : Int32)), (.ref r0)])) rfl (hb hby d1_8) rfl (by decide) (cap := 1024) (by decide) (by decide) (by decide) (by decide)
  obtain ⟨b2, g2⟩ : ∃ z, z = h0.size := ⟨_, rfl⟩
  rw [← g2] at A2 st2
  have gn_b2 : n0 ≤ b2 := Nat.le_trans Z0 (Nat.le_of_eq g2.symm)
  have ne_r0_b2 : r0 ≠ b2 := Nat.ne_of_lt (Nat.lt_of_lt_of_le F_labels_r0.lt (Nat.le_of_eq g2.symm))
  have sz_b2 : h0.size ≤ b2 := Nat.le_trans K0.1 (Nat.le_of_eq g2.symm)
  have F_labels_r0_c2 : Fld Z h2 r0 "com/example/mave/mave/engine/StateGraph" "labels" "[J" .null := F_labels_r0.ext E2
  have F_firsts_r0_c2 : Fld Z h2 r0 "com/example/mave/mave/engine/StateGraph" "firsts" "[I" .null := F_firsts_r0.ext E2
  have F_targets_r0_c2 : Fld Z h2 r0 "com/example/mave/mave/engine/StateGraph" "targets" "[I" .null := F_targets_r0.ext E2
  have F_movers_r0_c2 : Fld Z h2 r0 "com/example/mave/mave/engine/StateGraph" "movers" "[I" .null := F_movers_r0.ext E2
  have F_words_r0_c2 : Fld Z h2 r0 "com/example/mave/mave/engine/StateGraph" "words" "I" (.int (0 : Int32)) := F_words_r0.ext E2
  have E_r0_c2 : Exa Z h2 r0 "com/example/mave/mave/engine/StateGraph" := E_r0.ext E2
  have Z2 : n0 ≤ h2.size := Nat.le_trans Z0 E2.1
  have K2 : Keep h0 h2 [r0] := K0.ext E2
  have V_b2 : Arv Z h2 b2 k2 .long (1024 : Int32) [] (.long (0 : Int64)) := Arv.new A2 (by decide)
  refine own_go (G := T2.setTop (mkF m 10 #[.val (.ref r0), .val (.int p1)] [(.ref b2), (.ref r0)])) (st2) ?_
  obtain ⟨T3, h3, X3, e3, W3, st3⟩ := putF X2 hx hZ hown (host := "") (Or.inl (hw _ (List.mem_of_getElem? (i := 10) rfl))) Via.refl e2 F_labels_r0_c2 E_r0_c2 (Or.inl (hw _ (List.mem_of_getElem? (i := 11) rfl))) (hw _ (List.mem_of_getElem? (i := 2) rfl)) (ty := (.array .long)) (by decide) rfl rfl (g := (mkF m 10 #[.val (.ref r0), .val (.int p1)] [(.ref b2), (.ref r0)])) rfl rfl (hb hby d1_10)
  have F_firsts_r0_c3 : Fld Z h3 r0 "com/example/mave/mave/engine/StateGraph" "firsts" "[I" .null := F_firsts_r0_c2.other W3 (Or.inr (slot_ne (Or.inl (hw _ (List.mem_of_getElem? (i := 14) rfl))) (Or.inl (hw _ (List.mem_of_getElem? (i := 11) rfl))) (by decide) (t := (.array .int)) (t' := (.array .long)) (by decide) (by decide)))
  have F_targets_r0_c3 : Fld Z h3 r0 "com/example/mave/mave/engine/StateGraph" "targets" "[I" .null := F_targets_r0_c2.other W3 (Or.inr (slot_ne (Or.inl (hw _ (List.mem_of_getElem? (i := 16) rfl))) (Or.inl (hw _ (List.mem_of_getElem? (i := 11) rfl))) (by decide) (t := (.array .int)) (t' := (.array .long)) (by decide) (by decide)))
  have F_movers_r0_c3 : Fld Z h3 r0 "com/example/mave/mave/engine/StateGraph" "movers" "[I" .null := F_movers_r0_c2.other W3 (Or.inr (slot_ne (Or.inl (hw _ (List.mem_of_getElem? (i := 18) rfl))) (Or.inl (hw _ (List.mem_of_getElem? (i := 11) rfl))) (by decide) (t := (.array .int)) (t' := (.array .long)) (by decide) (by decide)))
  have F_words_r0_c3 : Fld Z h3 r0 "com/example/mave/mave/engine/StateGraph" "words" "I" (.int (0 : Int32)) := F_words_r0_c2.other W3 (Or.inr (slot_ne (Or.inr (hw _ (List.mem_of_getElem? (i := 20) rfl))) (Or.inl (hw _ (List.mem_of_getElem? (i := 11) rfl))) (by decide) (t := .int) (t' := (.array .long)) (by decide) (by decide)))
  have E_r0_c3 : Exa Z h3 r0 "com/example/mave/mave/engine/StateGraph" := E_r0_c2.wr W3
  have V_b2_c3 : Arv Z h3 b2 k2 .long (1024 : Int32) [] (.long (0 : Int64)) := V_b2.other W3 (Ne.symm ne_r0_b2)
  have Fw3_labels : Fld Z h3 r0 "com/example/mave/mave/engine/StateGraph" "labels" "[J" (.ref b2) := F_labels_r0_c2.same W3
  have N3 := Fr.snoc X3 N0 gn_r0
  have Z3 : n0 ≤ h3.size := Nat.le_trans Z2 (Keep.of_wr W3).1
  have K3 : Keep h0 h3 [r0] := K2.wr W3 (Or.inl (List.mem_of_getElem? (i := 0) rfl))
  refine own_go (G := T3.setTop (mkF m 13 #[.val (.ref r0), .val (.int p1)] [])) (st3) ?_
  refine own_go (G := T3.setTop (mkF m 14 #[.val (.ref r0), .val (.int p1)] [(.ref r0)])) (fun _ k => XS.aloadN X3.here hx rfl (hb hby d1_13) rfl rfl k) ?_
  refine own_go (G := T3.setTop (mkF m 17 #[.val (.ref r0), .val (.int p1)] [(.int (1024 : Int32)), (.ref r0)])) (fun _ k => XS.sipush X3.here hx rfl (hb hby d1_14) k) ?_
  obtain ⟨T4, h4, k4, X4, e4, E4, A4, st4⟩ := newP X3 hx hZ (hw _ (List.mem_of_getElem? (i := 12) rfl)) e3 (g := (mkF m 17 #[.val (.ref r0), .val (.int p1)] [(.int (1024 : Int32)), (.ref r0)])) rfl (hb hby d1_17) rfl (by decide) (cap := 1024) (by decide) (by decide) (by decide) (by decide)
  obtain ⟨b4, g4⟩ : ∃ z, z = h3.size := ⟨_, rfl⟩
  rw [← g4] at A4 st4
  have gn_b4 : n0 ≤ b4 := Nat.le_trans Z3 (Nat.le_of_eq g4.symm)
  have ne_r0_b4 : r0 ≠ b4 := Nat.ne_of_lt (Nat.lt_of_lt_of_le Fw3_labels.lt (Nat.le_of_eq g4.symm))
  have ne_b2_b4 : b2 ≠ b4 := Nat.ne_of_lt (Nat.lt_of_lt_of_le V_b2_c3.lt (Nat.le_of_eq g4.symm))
  have sz_b4 : h0.size ≤ b4 := Nat.le_trans K3.1 (Nat.le_of_eq g4.symm)
  have Fw3_labels_c4 : Fld Z h4 r0 "com/example/mave/mave/engine/StateGraph" "labels" "[J" (.ref b2) := Fw3_labels.ext E4
  have F_firsts_r0_c4 : Fld Z h4 r0 "com/example/mave/mave/engine/StateGraph" "firsts" "[I" .null := F_firsts_r0_c3.ext E4
  have F_targets_r0_c4 : Fld Z h4 r0 "com/example/mave/mave/engine/StateGraph" "targets" "[I" .null := F_targets_r0_c3.ext E4
  have F_movers_r0_c4 : Fld Z h4 r0 "com/example/mave/mave/engine/StateGraph" "movers" "[I" .null := F_movers_r0_c3.ext E4
  have F_words_r0_c4 : Fld Z h4 r0 "com/example/mave/mave/engine/StateGraph" "words" "I" (.int (0 : Int32)) := F_words_r0_c3.ext E4
  have E_r0_c4 : Exa Z h4 r0 "com/example/mave/mave/engine/StateGraph" := E_r0_c3.ext E4
  have V_b2_c4 : Arv Z h4 b2 k2 .long (1024 : Int32) [] (.long (0 : Int64)) := V_b2_c3.ext E4
  have Z4 : n0 ≤ h4.size := Nat.le_trans Z3 E4.1
  have K4 : Keep h0 h4 [r0] := K3.ext E4
  have V_b4 : Arv Z h4 b4 k4 .int (1024 : Int32) [] (.int (0 : Int32)) := Arv.new A4 (by decide)
  refine own_go (G := T4.setTop (mkF m 19 #[.val (.ref r0), .val (.int p1)] [(.ref b4), (.ref r0)])) (st4) ?_
  obtain ⟨T5, h5, X5, e5, W5, st5⟩ := putF X4 hx hZ hown (host := "") (Or.inl (hw _ (List.mem_of_getElem? (i := 13) rfl))) Via.refl e4 F_firsts_r0_c4 E_r0_c4 (Or.inl (hw _ (List.mem_of_getElem? (i := 14) rfl))) (hw _ (List.mem_of_getElem? (i := 2) rfl)) (ty := (.array .int)) (by decide) rfl rfl (g := (mkF m 19 #[.val (.ref r0), .val (.int p1)] [(.ref b4), (.ref r0)])) rfl rfl (hb hby d1_19)
  have Fw3_labels_c5 : Fld Z h5 r0 "com/example/mave/mave/engine/StateGraph" "labels" "[J" (.ref b2) := Fw3_labels_c4.other W5 (Or.inr (slot_ne (Or.inl (hw _ (List.mem_of_getElem? (i := 11) rfl))) (Or.inl (hw _ (List.mem_of_getElem? (i := 14) rfl))) (by decide) (t := (.array .long)) (t' := (.array .int)) (by decide) (by decide)))
  have F_targets_r0_c5 : Fld Z h5 r0 "com/example/mave/mave/engine/StateGraph" "targets" "[I" .null := F_targets_r0_c4.other W5 (Or.inr (slot_ne (Or.inl (hw _ (List.mem_of_getElem? (i := 16) rfl))) (Or.inl (hw _ (List.mem_of_getElem? (i := 14) rfl))) (by decide) (t := (.array .int)) (t' := (.array .int)) (by decide) (by decide)))
  have F_movers_r0_c5 : Fld Z h5 r0 "com/example/mave/mave/engine/StateGraph" "movers" "[I" .null := F_movers_r0_c4.other W5 (Or.inr (slot_ne (Or.inl (hw _ (List.mem_of_getElem? (i := 18) rfl))) (Or.inl (hw _ (List.mem_of_getElem? (i := 14) rfl))) (by decide) (t := (.array .int)) (t' := (.array .int)) (by decide) (by decide)))
  have F_words_r0_c5 : Fld Z h5 r0 "com/example/mave/mave/engine/StateGraph" "words" "I" (.int (0 : Int32)) := F_words_r0_c4.other W5 (Or.inr (slot_ne (Or.inr (hw _ (List.mem_of_getElem? (i := 20) rfl))) (Or.inl (hw _ (List.mem_of_getElem? (i := 14) rfl))) (by decide) (t := .int) (t' := (.array .int)) (by decide) (by decide)))
  have E_r0_c5 : Exa Z h5 r0 "com/example/mave/mave/engine/StateGraph" := E_r0_c4.wr W5
  have V_b2_c5 : Arv Z h5 b2 k2 .long (1024 : Int32) [] (.long (0 : Int64)) := V_b2_c4.other W5 (Ne.symm ne_r0_b2)
  have V_b4_c5 : Arv Z h5 b4 k4 .int (1024 : Int32) [] (.int (0 : Int32)) := V_b4.other W5 (Ne.symm ne_r0_b4)
  have Fw5_firsts : Fld Z h5 r0 "com/example/mave/mave/engine/StateGraph" "firsts" "[I" (.ref b4) := F_firsts_r0_c4.same W5
  have N5 := Fr.snoc X5 N3 gn_r0
  have Z5 : n0 ≤ h5.size := Nat.le_trans Z4 (Keep.of_wr W5).1
  have K5 : Keep h0 h5 [r0] := K4.wr W5 (Or.inl (List.mem_of_getElem? (i := 0) rfl))
  refine own_go (G := T5.setTop (mkF m 22 #[.val (.ref r0), .val (.int p1)] [])) (st5) ?_
  refine own_go (G := T5.setTop (mkF m 23 #[.val (.ref r0), .val (.int p1)] [(.ref r0)])) (fun _ k => XS.aloadN X5.here hx rfl (hb hby d1_22) rfl rfl k) ?_
  refine own_go (G := T5.setTop (mkF m 26 #[.val (.ref r0), .val (.int p1)] [(.int (1024 : Int32)), (.ref r0)])) (fun _ k => XS.sipush X5.here hx rfl (hb hby d1_23) k) ?_
  obtain ⟨T6, h6, k6, X6, e6, E6, A6, st6⟩ := newP X5 hx hZ (hw _ (List.mem_of_getElem? (i := 12) rfl)) e5 (g := (mkF m 26 #[.val (.ref r0), .val (.int p1)] [(.int (1024 : Int32)), (.ref r0)])) rfl (hb hby d1_26) rfl (by decide) (cap := 1024) (by decide) (by decide) (by decide) (by decide)
  obtain ⟨b6, g6⟩ : ∃ z, z = h5.size := ⟨_, rfl⟩
  rw [← g6] at A6 st6
  have gn_b6 : n0 ≤ b6 := Nat.le_trans Z5 (Nat.le_of_eq g6.symm)
  have ne_r0_b6 : r0 ≠ b6 := Nat.ne_of_lt (Nat.lt_of_lt_of_le Fw3_labels_c5.lt (Nat.le_of_eq g6.symm))
  have ne_b2_b6 : b2 ≠ b6 := Nat.ne_of_lt (Nat.lt_of_lt_of_le V_b2_c5.lt (Nat.le_of_eq g6.symm))
  have ne_b4_b6 : b4 ≠ b6 := Nat.ne_of_lt (Nat.lt_of_lt_of_le V_b4_c5.lt (Nat.le_of_eq g6.symm))
  have sz_b6 : h0.size ≤ b6 := Nat.le_trans K5.1 (Nat.le_of_eq g6.symm)
  have Fw3_labels_c6 : Fld Z h6 r0 "com/example/mave/mave/engine/StateGraph" "labels" "[J" (.ref b2) := Fw3_labels_c5.ext E6
  have Fw5_firsts_c6 : Fld Z h6 r0 "com/example/mave/mave/engine/StateGraph" "firsts" "[I" (.ref b4) := Fw5_firsts.ext E6
  have F_targets_r0_c6 : Fld Z h6 r0 "com/example/mave/mave/engine/StateGraph" "targets" "[I" .null := F_targets_r0_c5.ext E6
  have F_movers_r0_c6 : Fld Z h6 r0 "com/example/mave/mave/engine/StateGraph" "movers" "[I" .null := F_movers_r0_c5.ext E6
  have F_words_r0_c6 : Fld Z h6 r0 "com/example/mave/mave/engine/StateGraph" "words" "I" (.int (0 : Int32)) := F_words_r0_c5.ext E6
  have E_r0_c6 : Exa Z h6 r0 "com/example/mave/mave/engine/StateGraph" := E_r0_c5.ext E6
  have V_b2_c6 : Arv Z h6 b2 k2 .long (1024 : Int32) [] (.long (0 : Int64)) := V_b2_c5.ext E6
  have V_b4_c6 : Arv Z h6 b4 k4 .int (1024 : Int32) [] (.int (0 : Int32)) := V_b4_c5.ext E6
  have Z6 : n0 ≤ h6.size := Nat.le_trans Z5 E6.1
  have K6 : Keep h0 h6 [r0] := K5.ext E6
  have V_b6 : Arv Z h6 b6 k6 .int (1024 : Int32) [] (.int (0 : Int32)) := Arv.new A6 (by decide)
  refine own_go (G := T6.setTop (mkF m 28 #[.val (.ref r0), .val (.int p1)] [(.ref b6), (.ref r0)])) (st6) ?_
  obtain ⟨T7, h7, X7, e7, W7, st7⟩ := putF X6 hx hZ hown (host := "") (Or.inl (hw _ (List.mem_of_getElem? (i := 15) rfl))) Via.refl e6 F_targets_r0_c6 E_r0_c6 (Or.inl (hw _ (List.mem_of_getElem? (i := 16) rfl))) (hw _ (List.mem_of_getElem? (i := 2) rfl)) (ty := (.array .int)) (by decide) rfl rfl (g := (mkF m 28 #[.val (.ref r0), .val (.int p1)] [(.ref b6), (.ref r0)])) rfl rfl (hb hby d1_28)
  have Fw3_labels_c7 : Fld Z h7 r0 "com/example/mave/mave/engine/StateGraph" "labels" "[J" (.ref b2) := Fw3_labels_c6.other W7 (Or.inr (slot_ne (Or.inl (hw _ (List.mem_of_getElem? (i := 11) rfl))) (Or.inl (hw _ (List.mem_of_getElem? (i := 16) rfl))) (by decide) (t := (.array .long)) (t' := (.array .int)) (by decide) (by decide)))
  have Fw5_firsts_c7 : Fld Z h7 r0 "com/example/mave/mave/engine/StateGraph" "firsts" "[I" (.ref b4) := Fw5_firsts_c6.other W7 (Or.inr (slot_ne (Or.inl (hw _ (List.mem_of_getElem? (i := 14) rfl))) (Or.inl (hw _ (List.mem_of_getElem? (i := 16) rfl))) (by decide) (t := (.array .int)) (t' := (.array .int)) (by decide) (by decide)))
  have F_movers_r0_c7 : Fld Z h7 r0 "com/example/mave/mave/engine/StateGraph" "movers" "[I" .null := F_movers_r0_c6.other W7 (Or.inr (slot_ne (Or.inl (hw _ (List.mem_of_getElem? (i := 18) rfl))) (Or.inl (hw _ (List.mem_of_getElem? (i := 16) rfl))) (by decide) (t := (.array .int)) (t' := (.array .int)) (by decide) (by decide)))
  have F_words_r0_c7 : Fld Z h7 r0 "com/example/mave/mave/engine/StateGraph" "words" "I" (.int (0 : Int32)) := F_words_r0_c6.other W7 (Or.inr (slot_ne (Or.inr (hw _ (List.mem_of_getElem? (i := 20) rfl))) (Or.inl (hw _ (List.mem_of_getElem? (i := 16) rfl))) (by decide) (t := .int) (t' := (.array .int)) (by decide) (by decide)))
  have E_r0_c7 : Exa Z h7 r0 "com/example/mave/mave/engine/StateGraph" := E_r0_c6.wr W7
  have V_b2_c7 : Arv Z h7 b2 k2 .long (1024 : Int32) [] (.long (0 : Int64)) := V_b2_c6.other W7 (Ne.symm ne_r0_b2)
  have V_b4_c7 : Arv Z h7 b4 k4 .int (1024 : Int32) [] (.int (0 : Int32)) := V_b4_c6.other W7 (Ne.symm ne_r0_b4)
  have V_b6_c7 : Arv Z h7 b6 k6 .int (1024 : Int32) [] (.int (0 : Int32)) := V_b6.other W7 (Ne.symm ne_r0_b6)
  have Fw7_targets : Fld Z h7 r0 "com/example/mave/mave/engine/StateGraph" "targets" "[I" (.ref b6) := F_targets_r0_c6.same W7
  have N7 := Fr.snoc X7 N5 gn_r0
  have Z7 : n0 ≤ h7.size := Nat.le_trans Z6 (Keep.of_wr W7).1
  have K7 : Keep h0 h7 [r0] := K6.wr W7 (Or.inl (List.mem_of_getElem? (i := 0) rfl))
  refine own_go (G := T7.setTop (mkF m 31 #[.val (.ref r0), .val (.int p1)] [])) (st7) ?_
  refine own_go (G := T7.setTop (mkF m 32 #[.val (.ref r0), .val (.int p1)] [(.ref r0)])) (fun _ k => XS.aloadN X7.here hx rfl (hb hby d1_31) rfl rfl k) ?_
  refine own_go (G := T7.setTop (mkF m 35 #[.val (.ref r0), .val (.int p1)] [(.int (1024 : Int32)), (.ref r0)])) (fun _ k => XS.sipush X7.here hx rfl (hb hby d1_32) k) ?_
  obtain ⟨T8, h8, k8, X8, e8, E8, A8, st8⟩ := newP X7 hx hZ (hw _ (List.mem_of_getElem? (i := 12) rfl)) e7 (g := (mkF m 35 #[.val (.ref r0), .val (.int p1)] [(.int (1024 : Int32)), (.ref r0)])) rfl (hb hby d1_35) rfl (by decide) (cap := 1024) (by decide) (by decide) (by decide) (by decide)
  obtain ⟨b8, g8⟩ : ∃ z, z = h7.size := ⟨_, rfl⟩
  rw [← g8] at A8 st8
  have gn_b8 : n0 ≤ b8 := Nat.le_trans Z7 (Nat.le_of_eq g8.symm)
  have ne_r0_b8 : r0 ≠ b8 := Nat.ne_of_lt (Nat.lt_of_lt_of_le Fw3_labels_c7.lt (Nat.le_of_eq g8.symm))
  have ne_b2_b8 : b2 ≠ b8 := Nat.ne_of_lt (Nat.lt_of_lt_of_le V_b2_c7.lt (Nat.le_of_eq g8.symm))
  have ne_b4_b8 : b4 ≠ b8 := Nat.ne_of_lt (Nat.lt_of_lt_of_le V_b4_c7.lt (Nat.le_of_eq g8.symm))
  have ne_b6_b8 : b6 ≠ b8 := Nat.ne_of_lt (Nat.lt_of_lt_of_le V_b6_c7.lt (Nat.le_of_eq g8.symm))
  have sz_b8 : h0.size ≤ b8 := Nat.le_trans K7.1 (Nat.le_of_eq g8.symm)
  have Fw3_labels_c8 : Fld Z h8 r0 "com/example/mave/mave/engine/StateGraph" "labels" "[J" (.ref b2) := Fw3_labels_c7.ext E8
  have Fw5_firsts_c8 : Fld Z h8 r0 "com/example/mave/mave/engine/StateGraph" "firsts" "[I" (.ref b4) := Fw5_firsts_c7.ext E8
  have Fw7_targets_c8 : Fld Z h8 r0 "com/example/mave/mave/engine/StateGraph" "targets" "[I" (.ref b6) := Fw7_targets.ext E8
  have F_movers_r0_c8 : Fld Z h8 r0 "com/example/mave/mave/engine/StateGraph" "movers" "[I" .null := F_movers_r0_c7.ext E8
  have F_words_r0_c8 : Fld Z h8 r0 "com/example/mave/mave/engine/StateGraph" "words" "I" (.int (0 : Int32)) := F_words_r0_c7.ext E8
  have E_r0_c8 : Exa Z h8 r0 "com/example/mave/mave/engine/StateGraph" := E_r0_c7.ext E8
  have V_b2_c8 : Arv Z h8 b2 k2 .long (1024 : Int32) [] (.long (0 : Int64)) := V_b2_c7.ext E8
  have V_b4_c8 : Arv Z h8 b4 k4 .int (1024 : Int32) [] (.int (0 : Int32)) := V_b4_c7.ext E8
  have V_b6_c8 : Arv Z h8 b6 k6 .int (1024 : Int32) [] (.int (0 : Int32)) := V_b6_c7.ext E8
  have Z8 : n0 ≤ h8.size := Nat.le_trans Z7 E8.1
  have K8 : Keep h0 h8 [r0] := K7.ext E8
  have V_b8 : Arv Z h8 b8 k8 .int (1024 : Int32) [] (.int (0 : Int32)) := Arv.new A8 (by decide)
  refine own_go (G := T8.setTop (mkF m 37 #[.val (.ref r0), .val (.int p1)] [(.ref b8), (.ref r0)])) (st8) ?_
  obtain ⟨T9, h9, X9, e9, W9, st9⟩ := putF X8 hx hZ hown (host := "") (Or.inl (hw _ (List.mem_of_getElem? (i := 17) rfl))) Via.refl e8 F_movers_r0_c8 E_r0_c8 (Or.inl (hw _ (List.mem_of_getElem? (i := 18) rfl))) (hw _ (List.mem_of_getElem? (i := 2) rfl)) (ty := (.array .int)) (by decide) rfl rfl (g := (mkF m 37 #[.val (.ref r0), .val (.int p1)] [(.ref b8), (.ref r0)])) rfl rfl (hb hby d1_37)
  have Fw3_labels_c9 : Fld Z h9 r0 "com/example/mave/mave/engine/StateGraph" "labels" "[J" (.ref b2) := Fw3_labels_c8.other W9 (Or.inr (slot_ne (Or.inl (hw _ (List.mem_of_getElem? (i := 11) rfl))) (Or.inl (hw _ (List.mem_of_getElem? (i := 18) rfl))) (by decide) (t := (.array .long)) (t' := (.array .int)) (by decide) (by decide)))
  have Fw5_firsts_c9 : Fld Z h9 r0 "com/example/mave/mave/engine/StateGraph" "firsts" "[I" (.ref b4) := Fw5_firsts_c8.other W9 (Or.inr (slot_ne (Or.inl (hw _ (List.mem_of_getElem? (i := 14) rfl))) (Or.inl (hw _ (List.mem_of_getElem? (i := 18) rfl))) (by decide) (t := (.array .int)) (t' := (.array .int)) (by decide) (by decide)))
  have Fw7_targets_c9 : Fld Z h9 r0 "com/example/mave/mave/engine/StateGraph" "targets" "[I" (.ref b6) := Fw7_targets_c8.other W9 (Or.inr (slot_ne (Or.inl (hw _ (List.mem_of_getElem? (i := 16) rfl))) (Or.inl (hw _ (List.mem_of_getElem? (i := 18) rfl))) (by decide) (t := (.array .int)) (t' := (.array .int)) (by decide) (by decide)))
  have F_words_r0_c9 : Fld Z h9 r0 "com/example/mave/mave/engine/StateGraph" "words" "I" (.int (0 : Int32)) := F_words_r0_c8.other W9 (Or.inr (slot_ne (Or.inr (hw _ (List.mem_of_getElem? (i := 20) rfl))) (Or.inl (hw _ (List.mem_of_getElem? (i := 18) rfl))) (by decide) (t := .int) (t' := (.array .int)) (by decide) (by decide)))
  have E_r0_c9 : Exa Z h9 r0 "com/example/mave/mave/engine/StateGraph" := E_r0_c8.wr W9
  have V_b2_c9 : Arv Z h9 b2 k2 .long (1024 : Int32) [] (.long (0 : Int64)) := V_b2_c8.other W9 (Ne.symm ne_r0_b2)
  have V_b4_c9 : Arv Z h9 b4 k4 .int (1024 : Int32) [] (.int (0 : Int32)) := V_b4_c8.other W9 (Ne.symm ne_r0_b4)
  have V_b6_c9 : Arv Z h9 b6 k6 .int (1024 : Int32) [] (.int (0 : Int32)) := V_b6_c8.other W9 (Ne.symm ne_r0_b6)
  have V_b8_c9 : Arv Z h9 b8 k8 .int (1024 : Int32) [] (.int (0 : Int32)) := V_b8.other W9 (Ne.symm ne_r0_b8)
  have Fw9_movers : Fld Z h9 r0 "com/example/mave/mave/engine/StateGraph" "movers" "[I" (.ref b8) := F_movers_r0_c8.same W9
  have N9 := Fr.snoc X9 N7 gn_r0
  have Z9 : n0 ≤ h9.size := Nat.le_trans Z8 (Keep.of_wr W9).1
  have K9 : Keep h0 h9 [r0] := K8.wr W9 (Or.inl (List.mem_of_getElem? (i := 0) rfl))
  refine own_go (G := T9.setTop (mkF m 40 #[.val (.ref r0), .val (.int p1)] [])) (st9) ?_
  refine own_go (G := T9.setTop (mkF m 41 #[.val (.ref r0), .val (.int p1)] [(.ref r0)])) (fun _ k => XS.aloadN X9.here hx rfl (hb hby d1_40) rfl rfl k) ?_
  refine own_go (G := T9.setTop (mkF m 42 #[.val (.ref r0), .val (.int p1)] [(.int p1), (.ref r0)])) (fun _ k => XS.iloadN X9.here hx rfl (hb hby d1_41) rfl k) ?_
  refine own_go (G := T9.setTop (mkF m 44 #[.val (.ref r0), .val (.int p1)] [(.int (64 : Int32)), (.int p1), (.ref r0)])) (fun _ k => XS.bipush X9.here hx rfl (hb hby d1_42) k) ?_
  refine own_go (G := T9.setTop (mkF m 45 #[.val (.ref r0), .val (.int p1)] [(.int (p1 + (64 : Int32))), (.ref r0)])) (fun _ k => XS.iadd X9.here hx rfl (hb hby d1_44) rfl k) ?_
  refine own_go (G := T9.setTop (mkF m 46 #[.val (.ref r0), .val (.int p1)] [(.int (1 : Int32)), (.int (p1 + (64 : Int32))), (.ref r0)])) (fun _ k => XS.iconst X9.here hx rfl (hb hby d1_45) k) ?_
  refine own_go (G := T9.setTop (mkF m 47 #[.val (.ref r0), .val (.int p1)] [(.int ((p1 + (64 : Int32)) - (1 : Int32))), (.ref r0)])) (fun _ k => XS.isub X9.here hx rfl (hb hby d1_46) rfl k) ?_
  refine own_go (G := T9.setTop (mkF m 49 #[.val (.ref r0), .val (.int p1)] [(.int (64 : Int32)), (.int ((p1 + (64 : Int32)) - (1 : Int32))), (.ref r0)])) (fun _ k => XS.bipush X9.here hx rfl (hb hby d1_47) k) ?_
  refine own_go (G := T9.setTop (mkF m 50 #[.val (.ref r0), .val (.int p1)] [(.int (((p1 + (64 : Int32)) - (1 : Int32)) / (64 : Int32))), (.ref r0)])) (fun _ k => XS.idiv X9.here hx rfl (hb hby d1_49) rfl (by decide) k) ?_
  obtain ⟨T10, h10, X10, e10, W10, st10⟩ := putF X9 hx hZ hown (host := "") (Or.inl (hw _ (List.mem_of_getElem? (i := 19) rfl))) Via.refl e9 F_words_r0_c9 E_r0_c9 (Or.inr ⟨(hw _ (List.mem_of_getElem? (i := 20) rfl)), rfl, hnm⟩) (hw _ (List.mem_of_getElem? (i := 2) rfl)) (ty := .int) (by decide) rfl rfl (g := (mkF m 50 #[.val (.ref r0), .val (.int p1)] [(.int (((p1 + (64 : Int32)) - (1 : Int32)) / (64 : Int32))), (.ref r0)])) rfl rfl (hb hby d1_50)
  have Fw3_labels_c10 : Fld Z h10 r0 "com/example/mave/mave/engine/StateGraph" "labels" "[J" (.ref b2) := Fw3_labels_c9.other W10 (Or.inr (slot_ne (Or.inl (hw _ (List.mem_of_getElem? (i := 11) rfl))) (Or.inr (hw _ (List.mem_of_getElem? (i := 20) rfl))) (by decide) (t := (.array .long)) (t' := .int) (by decide) (by decide)))
  have Fw5_firsts_c10 : Fld Z h10 r0 "com/example/mave/mave/engine/StateGraph" "firsts" "[I" (.ref b4) := Fw5_firsts_c9.other W10 (Or.inr (slot_ne (Or.inl (hw _ (List.mem_of_getElem? (i := 14) rfl))) (Or.inr (hw _ (List.mem_of_getElem? (i := 20) rfl))) (by decide) (t := (.array .int)) (t' := .int) (by decide) (by decide)))
  have Fw7_targets_c10 : Fld Z h10 r0 "com/example/mave/mave/engine/StateGraph" "targets" "[I" (.ref b6) := Fw7_targets_c9.other W10 (Or.inr (slot_ne (Or.inl (hw _ (List.mem_of_getElem? (i := 16) rfl))) (Or.inr (hw _ (List.mem_of_getElem? (i := 20) rfl))) (by decide) (t := (.array .int)) (t' := .int) (by decide) (by decide)))
  have Fw9_movers_c10 : Fld Z h10 r0 "com/example/mave/mave/engine/StateGraph" "movers" "[I" (.ref b8) := Fw9_movers.other W10 (Or.inr (slot_ne (Or.inl (hw _ (List.mem_of_getElem? (i := 18) rfl))) (Or.inr (hw _ (List.mem_of_getElem? (i := 20) rfl))) (by decide) (t := (.array .int)) (t' := .int) (by decide) (by decide)))
  have E_r0_c10 : Exa Z h10 r0 "com/example/mave/mave/engine/StateGraph" := E_r0_c9.wr W10
  have V_b2_c10 : Arv Z h10 b2 k2 .long (1024 : Int32) [] (.long (0 : Int64)) := V_b2_c9.other W10 (Ne.symm ne_r0_b2)
  have V_b4_c10 : Arv Z h10 b4 k4 .int (1024 : Int32) [] (.int (0 : Int32)) := V_b4_c9.other W10 (Ne.symm ne_r0_b4)
  have V_b6_c10 : Arv Z h10 b6 k6 .int (1024 : Int32) [] (.int (0 : Int32)) := V_b6_c9.other W10 (Ne.symm ne_r0_b6)
  have V_b8_c10 : Arv Z h10 b8 k8 .int (1024 : Int32) [] (.int (0 : Int32)) := V_b8_c9.other W10 (Ne.symm ne_r0_b8)
  have Fw10_words : Fld Z h10 r0 "com/example/mave/mave/engine/StateGraph" "words" "I" (.int (((p1 + (64 : Int32)) - (1 : Int32)) / (64 : Int32))) := F_words_r0_c9.same W10
  have N10 := Fr.snoc X10 N9 gn_r0
  have Z10 : n0 ≤ h10.size := Nat.le_trans Z9 (Keep.of_wr W10).1
  have K10 : Keep h0 h10 [r0] := K9.wr W10 (Or.inl (List.mem_of_getElem? (i := 0) rfl))
  refine own_go (G := T10.setTop (mkF m 53 #[.val (.ref r0), .val (.int p1)] [])) (st10) ?_
  exact own_retV X10 hx Bd.returns (hb hby d1_53) Bd.notSynchronized (by decide) (by decide) (by rw [e10]; exact ⟨rfl, N10, K10, E_r0_c10, Fw10_words, b2, k2, gn_b2, sz_b2, Fw3_labels_c10, V_b2_c10⟩)
def Q3 (Z : State) (p1 ww : Int32) (lb : Addr) (kl : ClassId) (vs vd : List Value) (h0 : Heap) (n0 : Nat) (v : Option Value) (h : Heap) (L : List Loc) : Prop := v = none ∧ Fr n0 L ∧ Keep h0 h [lb] ∧ Arv Z h lb kl .long (1024 : Int32) (vd.take (p1 * ww).toNatClampNeg ++ (List.range ww.toNatClampNeg).map (fun i => vs.getD ((0 : Int32).toNatClampNeg + i) (.long (0 : Int64))) ++ vd.drop ((p1 * ww).toNatClampNeg + ww.toNatClampNeg)) (.long (0 : Int64))
theorem d3_0 : decode prog_31_method_2_code 0 = .ok (.iload_n 1, 1) := by decide +kernel
theorem d3_1 : decode prog_31_method_2_code 1 = .ok (.iconst 1, 1) := by decide +kernel
theorem d3_2 : decode prog_31_method_2_code 2 = .ok (.iadd, 1) := by decide +kernel
theorem d3_3 : decode prog_31_method_2_code 3 = .ok (.i2l, 1) := by decide +kernel
theorem d3_4 : decode prog_31_method_2_code 4 = .ok (.aload_n 0, 1) := by decide +kernel
theorem d3_5 : decode prog_31_method_2_code 5 = .ok (.getfield 27, 3) := by decide +kernel
theorem d3_8 : decode prog_31_method_2_code 8 = .ok (.i2l, 1) := by decide +kernel
theorem d3_9 : decode prog_31_method_2_code 9 = .ok (.lmul, 1) := by decide +kernel
theorem d3_10 : decode prog_31_method_2_code 10 = .ok (.lstore_n 3, 1) := by decide +kernel
theorem d3_11 : decode prog_31_method_2_code 11 = .ok (.lload_n 3, 1) := by decide +kernel
theorem d3_12 : decode prog_31_method_2_code 12 = .ok (.aload_n 0, 1) := by decide +kernel
theorem d3_13 : decode prog_31_method_2_code 13 = .ok (.getfield 9, 3) := by decide +kernel
theorem d3_16 : decode prog_31_method_2_code 16 = .ok (.arraylength, 1) := by decide +kernel
theorem d3_17 : decode prog_31_method_2_code 17 = .ok (.i2l, 1) := by decide +kernel
theorem d3_18 : decode prog_31_method_2_code 18 = .ok (.lcmp, 1) := by decide +kernel
theorem d3_19 : decode prog_31_method_2_code 19 = .ok (.ifCond .le 23, 3) := by decide +kernel
theorem d3_42 : decode prog_31_method_2_code 42 = .ok (.aload_n 2, 1) := by decide +kernel
theorem d3_43 : decode prog_31_method_2_code 43 = .ok (.iconst 0, 1) := by decide +kernel
theorem d3_44 : decode prog_31_method_2_code 44 = .ok (.aload_n 0, 1) := by decide +kernel
theorem d3_45 : decode prog_31_method_2_code 45 = .ok (.getfield 9, 3) := by decide +kernel
theorem d3_48 : decode prog_31_method_2_code 48 = .ok (.iload_n 1, 1) := by decide +kernel
theorem d3_49 : decode prog_31_method_2_code 49 = .ok (.aload_n 0, 1) := by decide +kernel
theorem d3_50 : decode prog_31_method_2_code 50 = .ok (.getfield 27, 3) := by decide +kernel
theorem d3_53 : decode prog_31_method_2_code 53 = .ok (.imul, 1) := by decide +kernel
theorem d3_54 : decode prog_31_method_2_code 54 = .ok (.aload_n 0, 1) := by decide +kernel
theorem d3_55 : decode prog_31_method_2_code 55 = .ok (.getfield 27, 3) := by decide +kernel
theorem d3_58 : decode prog_31_method_2_code 58 = .ok (.invokestatic 41, 3) := by decide +kernel
theorem d3_61 : decode prog_31_method_2_code 61 = .ok (.return_, 1) := by decide +kernel
theorem pn3 : plainName "com/example/mave/mave/engine/StateGraph" = true := by first | (simp [plainName, overriddenIn]; done) | decide +kernel
theorem ef_rm3 (m : MethodId) (r0 : Addr) (p1 : Int32) (r2 : Addr) : entryFrame m #[(.ref r0), (.int p1), (.ref r2)] 5 = mkF m 0 #[.val (.ref r0), .val (.int p1), .val (.ref r2), .unset, .unset] [] := by first | (simp [entryFrame, mkF, argsToLocals, Value.category]; done) | rfl
set_option maxRecDepth 65536 in
set_option maxHeartbeats 40000000 in
theorem rm3 (l : Launch) (Z : State) (a0 : Array Value) (hw : ∀ d ∈ tables_1, d.before a0 Z = true) (ws : List Jvm.Cond) (r0 : Addr) (p1 : Int32) (r2 : Addr) (ww : Int32) (lb : Addr) (k2 : ClassId) (kl : ClassId) (vs : List Value) (vd : List Value) (h0 : Heap) (n0 : Nat) (Z0 : n0 ≤ h0.size) (F_words : Fld Z h0 r0 "com/example/mave/mave/engine/StateGraph" "words" "I" (.int ww)) (F_labels : Fld Z h0 r0 "com/example/mave/mave/engine/StateGraph" "labels" "[J" (.ref lb)) (V_r2 : Arv Z h0 r2 k2 .long (2 : Int32) vs (.long (0 : Int64))) (V_lb : Arv Z h0 lb kl .long (1024 : Int32) vd (.long (0 : Int64))) (gn_lb : n0 ≤ lb) (ne_r2 : r2 ≠ lb) (ne_r0 : r0 ≠ lb) (hp0 : ¬ ((0 : Int32) < lcmpW (((p1 + (1 : Int32)).toInt64) * (ww.toInt64)) ((1024 : Int32).toInt64))) (hp2 : ¬ (p1 * ww) < 0) (hp3 : ¬ ww < 0) (hp4 : (0 : Int32).toNatClampNeg + ww.toNatClampNeg ≤ (2 : Int32).toNatClampNeg) (hp5 : (p1 * ww).toNatClampNeg + ww.toNatClampNeg ≤ (1024 : Int32).toNatClampNeg) (hp6 : (p1 * ww).toNatClampNeg + ww.toNatClampNeg ≤ vd.length) :
    MetFree l (⟨"com/example/mave/mave/engine/StateGraph", "label", "(I[J)V"⟩ : MethodName) (head1 (Jvm.Cond.code (⟨"com/example/mave/mave/engine/StateGraph", "label", "(I[J)V"⟩ : MethodName) prog_31_method_2_code 5 none :: ws) ({ frames := 1, cells := 0, slots := 0, locals := 40 } : Room)) (fun a U => a = #[(.ref r0), (.int p1), (.ref r2)] ∧ Z.Warmed39 U.vm ∧ U.heap = h0) (fun _ _ _ _ _ => True) (fun _ U o U' => ∃ v L, o = .returned v ∧ (Q3 Z p1 ww lb kl vs vd h0 n0) v U'.heap L ∧ FrameEnd U o U' L 0 0) := by
  refine MetFree.of_bodySF (plainFor_of_name pn3) hisR ?_
  intro p e s m args below meth c s₁ Bd hml0 hP hK
  obtain ⟨rfl, hZ, hh⟩ := hP
  have hx := Bd.exec
  have hby := Bd.bytes
  have hml : c.maxLocals = 5 := hml0
  have hown : s.vm.findClass "com/example/mave/mave/engine/StateGraph" = some m.cls := findClass_of_methodNamed Bd.named
  have hnm := (name_of_methodNamed Bd.named Bd.method).1
  have X0 : Stand p l e ({ frames := 1, cells := 0, slots := 0, locals := 40 } : Room) s m #[(.ref r0), (.int p1), (.ref r2)] below meth c s₁ [] 0 0 := Stand.of_body Bd
  have e0 : s₁.heap = h0 := by rw [← hh, Bd.state]; rfl
  have N0 := Fr.nil n0
  have K0 : Keep h0 h0 [lb] := Keep.refl h0 [lb]
  show own_Goes p e below (own_End s (Q3 Z p1 ww lb kl vs vd h0 n0) 0 0) _
  refine own_go (G := s₁.setTop (mkF m 0 #[.val (.ref r0), .val (.int p1), .val (.ref r2), .unset, .unset] [])) (fun t k => castTop (ef_rm3 m r0 p1 r2) k) ?_
  refine own_go (G := s₁.setTop (mkF m 1 #[.val (.ref r0), .val (.int p1), .val (.ref r2), .unset, .unset] [(.int p1)])) (fun _ k => XS.iloadN X0.here hx rfl (hb hby d3_0) rfl k) ?_
  refine own_go (G := s₁.setTop (mkF m 2 #[.val (.ref r0), .val (.int p1), .val (.ref r2), .unset, .unset] [(.int (1 : Int32)), (.int p1)])) (fun _ k => XS.iconst X0.here hx rfl (hb hby d3_1) k) ?_
  refine own_go (G := s₁.setTop (mkF m 3 #[.val (.ref r0), .val (.int p1), .val (.ref r2), .unset, .unset] [(.int (p1 + (1 : Int32)))])) (fun _ k => XS.iadd X0.here hx rfl (hb hby d3_2) rfl k) ?_
  refine own_go (G := s₁.setTop (mkF m 4 #[.val (.ref r0), .val (.int p1), .val (.ref r2), .unset, .unset] [(.long ((p1 + (1 : Int32)).toInt64))])) (fun _ k => XS.i2l X0.here hx rfl (hb hby d3_3) rfl k) ?_
  refine own_go (G := s₁.setTop (mkF m 5 #[.val (.ref r0), .val (.int p1), .val (.ref r2), .unset, .unset] [(.ref r0), (.long ((p1 + (1 : Int32)).toInt64))])) (fun _ k => XS.aloadN X0.here hx rfl (hb hby d3_4) rfl rfl k) ?_
  obtain ⟨T1, X1, e1, st1⟩ := getF X0 hx hZ hown (host := "") (Or.inl (hw _ (List.mem_of_getElem? (i := 19) rfl))) Via.refl e0 F_words (g := (mkF m 5 #[.val (.ref r0), .val (.int p1), .val (.ref r2), .unset, .unset] [(.ref r0), (.long ((p1 + (1 : Int32)).toInt64))])) rfl rfl (hb hby d3_5)
  refine own_go (G := T1.setTop (mkF m 8 #[.val (.ref r0), .val (.int p1), .val (.ref r2), .unset, .unset] [(.int ww), (.long ((p1 + (1 : Int32)).toInt64))])) (st1) ?_
  refine own_go (G := T1.setTop (mkF m 9 #[.val (.ref r0), .val (.int p1), .val (.ref r2), .unset, .unset] [(.long (ww.toInt64)), (.long ((p1 + (1 : Int32)).toInt64))])) (fun _ k => XS.i2l X1.here hx rfl (hb hby d3_8) rfl k) ?_
  refine own_go (G := T1.setTop (mkF m 10 #[.val (.ref r0), .val (.int p1), .val (.ref r2), .unset, .unset] [(.long (((p1 + (1 : Int32)).toInt64) * (ww.toInt64)))])) (fun _ k => XS.lmul X1.here hx rfl (hb hby d3_9) rfl k) ?_
  refine own_go (G := T1.setTop (mkF m 11 #[.val (.ref r0), .val (.int p1), .val (.ref r2), .val (.long (((p1 + (1 : Int32)).toInt64) * (ww.toInt64))), .second] [])) (fun _ k => XS.lstoreN X1.here hx rfl (hb hby d3_10) rfl (l' := #[.val (.ref r0), .val (.int p1), .val (.ref r2), .val (.long (((p1 + (1 : Int32)).toInt64) * (ww.toInt64))), .second]) rfl k) ?_
  refine own_go (G := T1.setTop (mkF m 12 #[.val (.ref r0), .val (.int p1), .val (.ref r2), .val (.long (((p1 + (1 : Int32)).toInt64) * (ww.toInt64))), .second] [(.long (((p1 + (1 : Int32)).toInt64) * (ww.toInt64)))])) (fun _ k => XS.lloadN X1.here hx rfl (hb hby d3_11) rfl k) ?_
  refine own_go (G := T1.setTop (mkF m 13 #[.val (.ref r0), .val (.int p1), .val (.ref r2), .val (.long (((p1 + (1 : Int32)).toInt64) * (ww.toInt64))), .second] [(.ref r0), (.long (((p1 + (1 : Int32)).toInt64) * (ww.toInt64)))])) (fun _ k => XS.aloadN X1.here hx rfl (hb hby d3_12) rfl rfl k) ?_
  obtain ⟨T2, X2, e2, st2⟩ := getF X1 hx hZ hown (host := "") (Or.inl (hw _ (List.mem_of_getElem? (i := 10) rfl))) Via.refl e1 F_labels (g := (mkF m 13 #[.val (.ref r0), .val (.int p1), .val (.ref r2), .val (.long (((p1 + (1 : Int32)).toInt64) * (ww.toInt64))), .second] [(.ref r0), (.long (((p1 + (1 : Int32)).toInt64) * (ww.toInt64)))])) rfl rfl (hb hby d3_13)
  refine own_go (G := T2.setTop (mkF m 16 #[.val (.ref r0), .val (.int p1), .val (.ref r2), .val (.long (((p1 + (1 : Int32)).toInt64) * (ww.toInt64))), .second] [(.ref lb), (.long (((p1 + (1 : Int32)).toInt64) * (ww.toInt64)))])) (st2) ?_
  obtain ⟨cl3, Ar3, -, S3, N3_, -, -⟩ := id V_lb
  refine own_go (G := T2.setTop (mkF m 17 #[.val (.ref r0), .val (.int p1), .val (.ref r2), .val (.long (((p1 + (1 : Int32)).toInt64) * (ww.toInt64))), .second] [(.int (1024 : Int32)), (.long (((p1 + (1 : Int32)).toInt64) * (ww.toInt64)))])) (fun t k => X2.arraylength hx (by rw [e2]; exact Ar3.1) (State.isArrayOf_alike hZ.alike Ar3.2.1) (g := (mkF m 16 #[.val (.ref r0), .val (.int p1), .val (.ref r2), .val (.long (((p1 + (1 : Int32)).toInt64) * (ww.toInt64))), .second] [(.ref lb), (.long (((p1 + (1 : Int32)).toInt64) * (ww.toInt64)))])) rfl rfl (hb hby d3_16) t (by rw [len_of S3 N3_]; exact k)) ?_
  refine own_go (G := T2.setTop (mkF m 18 #[.val (.ref r0), .val (.int p1), .val (.ref r2), .val (.long (((p1 + (1 : Int32)).toInt64) * (ww.toInt64))), .second] [(.long ((1024 : Int32).toInt64)), (.long (((p1 + (1 : Int32)).toInt64) * (ww.toInt64)))])) (fun _ k => XS.i2l X2.here hx rfl (hb hby d3_17) rfl k) ?_
  refine own_go (G := T2.setTop (mkF m 19 #[.val (.ref r0), .val (.int p1), .val (.ref r2), .val (.long (((p1 + (1 : Int32)).toInt64) * (ww.toInt64))), .second] [(.int (lcmpW (((p1 + (1 : Int32)).toInt64) * (ww.toInt64)) ((1024 : Int32).toInt64)))])) (fun _ k => XS.lcmp X2.here hx rfl (hb hby d3_18) rfl k) ?_
  refine own_go (G := T2.setTop (mkF m 42 #[.val (.ref r0), .val (.int p1), .val (.ref r2), .val (.long (((p1 + (1 : Int32)).toInt64) * (ww.toInt64))), .second] [])) (fun _ k => XS.ifYes X2.here hx rfl (pc0 := 19) (pc' := 42) rfl (hb hby d3_19) rfl ((if0 _ _).trans (flt (hp0 : ¬ ((0 : Int32) < (lcmpW (((p1 + (1 : Int32)).toInt64) * (ww.toInt64)) ((1024 : Int32).toInt64))))).2.2.2) (by decide) (by decide) k) ?_
  refine own_go (G := T2.setTop (mkF m 43 #[.val (.ref r0), .val (.int p1), .val (.ref r2), .val (.long (((p1 + (1 : Int32)).toInt64) * (ww.toInt64))), .second] [(.ref r2)])) (fun _ k => XS.aloadN X2.here hx rfl (hb hby d3_42) rfl rfl k) ?_
  refine own_go (G := T2.setTop (mkF m 44 #[.val (.ref r0), .val (.int p1), .val (.ref r2), .val (.long (((p1 + (1 : Int32)).toInt64) * (ww.toInt64))), .second] [(.int (0 : Int32)), (.ref r2)])) (fun _ k => XS.iconst X2.here hx rfl (hb hby d3_43) k) ?_
  refine own_go (G := T2.setTop (mkF m 45 #[.val (.ref r0), .val (.int p1), .val (.ref r2), .val (.long (((p1 + (1 : Int32)).toInt64) * (ww.toInt64))), .second] [(.ref r0), (.int (0 : Int32)), (.ref r2)])) (fun _ k => XS.aloadN X2.here hx rfl (hb hby d3_44) rfl rfl k) ?_
  obtain ⟨T4, X4, e4, st4⟩ := getF X2 hx hZ hown (host := "") (Or.inl (hw _ (List.mem_of_getElem? (i := 10) rfl))) Via.refl e2 F_labels (g := (mkF m 45 #[.val (.ref r0), .val (.int p1), .val (.ref r2), .val (.long (((p1 + (1 : Int32)).toInt64) * (ww.toInt64))), .second] [(.ref r0), (.int (0 : Int32)), (.ref r2)])) rfl rfl (hb hby d3_45)
  refine own_go (G := T4.setTop (mkF m 48 #[.val (.ref r0), .val (.int p1), .val (.ref r2), .val (.long (((p1 + (1 : Int32)).toInt64) * (ww.toInt64))), .second] [(.ref lb), (.int (0 : Int32)), (.ref r2)])) (st4) ?_
  refine own_go (G := T4.setTop (mkF m 49 #[.val (.ref r0), .val (.int p1), .val (.ref r2), .val (.long (((p1 + (1 : Int32)).toInt64) * (ww.toInt64))), .second] [(.int p1), (.ref lb), (.int (0 : Int32)), (.ref r2)])) (fun _ k => XS.iloadN X4.here hx rfl (hb hby d3_48) rfl k) ?_
  refine own_go (G := T4.setTop (mkF m 50 #[.val (.ref r0), .val (.int p1), .val (.ref r2), .val (.long (((p1 + (1 : Int32)).toInt64) * (ww.toInt64))), .second] [(.ref r0), (.int p1), (.ref lb), (.int (0 : Int32)), (.ref r2)])) (fun _ k => XS.aloadN X4.here hx rfl (hb hby d3_49) rfl rfl k) ?_
  obtain ⟨T5, X5, e5, st5⟩ := getF X4 hx hZ hown (host := "") (Or.inl (hw _ (List.mem_of_getElem? (i := 19) rfl))) Via.refl e4 F_words (g := (mkF m 50 #[.val (.ref r0), .val (.int p1), .val (.ref r2), .val (.long (((p1 + (1 : Int32)).toInt64) * (ww.toInt64))), .second] [(.ref r0), (.int p1), (.ref lb), (.int (0 : Int32)), (.ref r2)])) rfl rfl (hb hby d3_50)
  refine own_go (G := T5.setTop (mkF m 53 #[.val (.ref r0), .val (.int p1), .val (.ref r2), .val (.long (((p1 + (1 : Int32)).toInt64) * (ww.toInt64))), .second] [(.int ww), (.int p1), (.ref lb), (.int (0 : Int32)), (.ref r2)])) (st5) ?_
  refine own_go (G := T5.setTop (mkF m 54 #[.val (.ref r0), .val (.int p1), .val (.ref r2), .val (.long (((p1 + (1 : Int32)).toInt64) * (ww.toInt64))), .second] [(.int (p1 * ww)), (.ref lb), (.int (0 : Int32)), (.ref r2)])) (fun _ k => XS.imul X5.here hx rfl (hb hby d3_53) rfl k) ?_
  refine own_go (G := T5.setTop (mkF m 55 #[.val (.ref r0), .val (.int p1), .val (.ref r2), .val (.long (((p1 + (1 : Int32)).toInt64) * (ww.toInt64))), .second] [(.ref r0), (.int (p1 * ww)), (.ref lb), (.int (0 : Int32)), (.ref r2)])) (fun _ k => XS.aloadN X5.here hx rfl (hb hby d3_54) rfl rfl k) ?_
  obtain ⟨T6, X6, e6, st6⟩ := getF X5 hx hZ hown (host := "") (Or.inl (hw _ (List.mem_of_getElem? (i := 19) rfl))) Via.refl e5 F_words (g := (mkF m 55 #[.val (.ref r0), .val (.int p1), .val (.ref r2), .val (.long (((p1 + (1 : Int32)).toInt64) * (ww.toInt64))), .second] [(.ref r0), (.int (p1 * ww)), (.ref lb), (.int (0 : Int32)), (.ref r2)])) rfl rfl (hb hby d3_55)
  refine own_go (G := T6.setTop (mkF m 58 #[.val (.ref r0), .val (.int p1), .val (.ref r2), .val (.long (((p1 + (1 : Int32)).toInt64) * (ww.toInt64))), .second] [(.int ww), (.int (p1 * ww)), (.ref lb), (.int (0 : Int32)), (.ref r2)])) (st6) ?_
  obtain ⟨T7, h7, L7, X7, e7, N7, Kc7, Vc7, st7⟩ := cpA X6 hx hZ hown (hw _ (List.mem_of_getElem? (i := 26) rfl)) (hw _ (List.mem_of_getElem? (i := 29) rfl)) (hw _ (List.mem_of_getElem? (i := 27) rfl)) (hw _ (List.mem_of_getElem? (i := 28) rfl)) e6 V_r2 V_lb (Or.inl ⟨rfl, rfl⟩) (by decide) hp2 hp3 hp4 hp5 rfl hp6 N0 gn_lb (g := (mkF m 58 #[.val (.ref r0), .val (.int p1), .val (.ref r2), .val (.long (((p1 + (1 : Int32)).toInt64) * (ww.toInt64))), .second] [(.int ww), (.int (p1 * ww)), (.ref lb), (.int (0 : Int32)), (.ref r2)])) rfl (by rw [hml]; rfl) rfl (hb hby d3_58) (by decide) (W := 0) (by show 2 * 0 + _ ≤ _; exact Nat.le_of_eq rfl) (by decide)
  have F_words_c7 : Fld Z h7 r0 "com/example/mave/mave/engine/StateGraph" "words" "I" (.int ww) := F_words.keep Kc7 (ninS ne_r0 nin0)
  have F_labels_c7 : Fld Z h7 r0 "com/example/mave/mave/engine/StateGraph" "labels" "[J" (.ref lb) := F_labels.keep Kc7 (ninS ne_r0 nin0)
  have V_r2_c7 : Arv Z h7 r2 k2 .long (2 : Int32) vs (.long (0 : Int64)) := V_r2.keep Kc7 (ninS ne_r2 nin0)
  have Va7 : Arv Z h7 lb kl .long (1024 : Int32) (vd.take ((p1 * ww)).toNatClampNeg ++ (List.range (ww).toNatClampNeg).map (fun i => vs.getD (((0 : Int32)).toNatClampNeg + i) (.long (0 : Int64))) ++ vd.drop (((p1 * ww)).toNatClampNeg + (ww).toNatClampNeg)) (.long (0 : Int64)) := Vc7
  have Z7 : n0 ≤ h7.size := Nat.le_trans Z0 Kc7.1
  have K7 : Keep h0 h7 [lb] := K0.trans Kc7 (allS (Or.inl (List.mem_of_getElem? (i := 0) rfl)) all0)
  refine own_go (G := T7.setTop (mkF m 61 #[.val (.ref r0), .val (.int p1), .val (.ref r2), .val (.long (((p1 + (1 : Int32)).toInt64) * (ww.toInt64))), .second] [])) (st7) ?_
  exact own_retV X7 hx Bd.returns (hb hby d3_61) Bd.notSynchronized (by decide) (by decide) (by rw [e7]; exact ⟨rfl, N7, K7, Va7⟩)
theorem d4_0 : decode prog_31_method_10_code 0 = .ok (.aload_n 0, 1) := by decide +kernel
theorem d4_1 : decode prog_31_method_10_code 1 = .ok (.getfield 9, 3) := by decide +kernel
theorem d4_4 : decode prog_31_method_10_code 4 = .ok (.iload_n 1, 1) := by decide +kernel
theorem d4_5 : decode prog_31_method_10_code 5 = .ok (.aload_n 0, 1) := by decide +kernel
theorem d4_6 : decode prog_31_method_10_code 6 = .ok (.getfield 27, 3) := by decide +kernel
theorem d4_9 : decode prog_31_method_10_code 9 = .ok (.imul, 1) := by decide +kernel
theorem d4_10 : decode prog_31_method_10_code 10 = .ok (.iload_n 2, 1) := by decide +kernel
theorem d4_11 : decode prog_31_method_10_code 11 = .ok (.bipush 64, 2) := by decide +kernel
theorem d4_13 : decode prog_31_method_10_code 13 = .ok (.idiv, 1) := by decide +kernel
theorem d4_14 : decode prog_31_method_10_code 14 = .ok (.iadd, 1) := by decide +kernel
theorem d4_15 : decode prog_31_method_10_code 15 = .ok (.laload, 1) := by decide +kernel
theorem d4_16 : decode prog_31_method_10_code 16 = .ok (.lconst 1, 1) := by decide +kernel
theorem d4_17 : decode prog_31_method_10_code 17 = .ok (.iload_n 2, 1) := by decide +kernel
theorem d4_18 : decode prog_31_method_10_code 18 = .ok (.lshl, 1) := by decide +kernel
theorem d4_19 : decode prog_31_method_10_code 19 = .ok (.land, 1) := by decide +kernel
theorem d4_20 : decode prog_31_method_10_code 20 = .ok (.lconst 0, 1) := by decide +kernel
theorem d4_21 : decode prog_31_method_10_code 21 = .ok (.lcmp, 1) := by decide +kernel
theorem d4_22 : decode prog_31_method_10_code 22 = .ok (.ifCond .eq 7, 3) := by decide +kernel
theorem d4_25 : decode prog_31_method_10_code 25 = .ok (.iconst 1, 1) := by decide +kernel
theorem d4_26 : decode prog_31_method_10_code 26 = .ok (.goto 4, 3) := by decide +kernel
theorem d4_29 : decode prog_31_method_10_code 29 = .ok (.iconst 0, 1) := by decide +kernel
theorem d4_30 : decode prog_31_method_10_code 30 = .ok (.ireturn, 1) := by decide +kernel
theorem pn4 : plainName "com/example/mave/mave/engine/StateGraph" = true := by first | (simp [plainName, overriddenIn]; done) | decide +kernel
theorem ef_rm4 (m : MethodId) (r0 : Addr) (p1 : Int32) (p2 : Int32) : entryFrame m #[(.ref r0), (.int p1), (.int p2)] 3 = mkF m 0 #[.val (.ref r0), .val (.int p1), .val (.int p2)] [] := by first | (simp [entryFrame, mkF, argsToLocals, Value.category]; done) | rfl
def F4 (r0 : Addr) (p1 : Int32) (p2 : Int32) (ww : Int32) (lb : Addr) (cl : Cell) (w : Int64) : Int32 := (if (lcmpW (w &&& ((1 : Int64) <<< (p2 &&& 0x3f).toInt64)) (0 : Int64)) = (0 : Int32) then (0 : Int32) else (1 : Int32))
set_option maxRecDepth 65536 in
set_option maxHeartbeats 40000000 in
theorem rm4 (l : Launch) (Z : State) (a0 : Array Value) (hw : ∀ d ∈ tables_1, d.before a0 Z = true) (ws : List Jvm.Cond) (r0 : Addr) (p1 : Int32) (p2 : Int32) (ww : Int32) (lb : Addr) (cl : Cell) (w : Int64) (h0 : Heap) (n0 : Nat) (Z0 : n0 ≤ h0.size) (F_words : Fld Z h0 r0 "com/example/mave/mave/engine/StateGraph" "words" "I" (.int ww)) (F_labels : Fld Z h0 r0 "com/example/mave/mave/engine/StateGraph" "labels" "[J" (.ref lb)) (Ar : Arr Z h0 lb cl .long) (hin : ¬ (((p1 * ww) + (p2 / (64 : Int32))) < 0 ∨ cl.slots.size ≤ ((p1 * ww) + (p2 / (64 : Int32))).toNatClampNeg)) (hat : cl.slots[((p1 * ww) + (p2 / (64 : Int32))).toNatClampNeg]? = some (.long w)) :
    MetFree l (⟨"com/example/mave/mave/engine/StateGraph", "holds", "(II)Z"⟩ : MethodName) (head1 (Jvm.Cond.code (⟨"com/example/mave/mave/engine/StateGraph", "holds", "(II)Z"⟩ : MethodName) prog_31_method_10_code 3 (some .boolean) :: ws) ({ frames := 0, cells := 0, slots := 0, locals := 0 } : Room)) (fun a U => a = #[(.ref r0), (.int p1), (.int p2)] ∧ Z.Warmed39 U.vm ∧ U.heap = h0) (fun _ _ _ _ _ => True) (fun _ U o U' => ∃ v L, o = .returned v ∧ (own_Same (.int (F4 r0 p1 p2 ww lb cl w)) h0 n0) v U'.heap L ∧ FrameEnd U o U' L 0 0) := by
  refine MetFree.of_bodySF (plainFor_of_name pn4) hisR ?_
  intro p e s m args below meth c s₁ Bd hml0 hP hK
  obtain ⟨rfl, hZ, hh⟩ := hP
  have hx := Bd.exec
  have hby := Bd.bytes
  have hml : c.maxLocals = 3 := hml0
  have hown : s.vm.findClass "com/example/mave/mave/engine/StateGraph" = some m.cls := findClass_of_methodNamed Bd.named
  have hnm := (name_of_methodNamed Bd.named Bd.method).1
  have X0 : Stand p l e ({ frames := 0, cells := 0, slots := 0, locals := 0 } : Room) s m #[(.ref r0), (.int p1), (.int p2)] below meth c s₁ [] 0 0 := Stand.of_body Bd
  have e0 : s₁.heap = h0 := by rw [← hh, Bd.state]; rfl
  have N0 := Fr.nil n0
  show own_Goes p e below (own_End s (own_Same (.int (F4 r0 p1 p2 ww lb cl w)) h0 n0) 0 0) _
  refine own_go (G := s₁.setTop (mkF m 0 #[.val (.ref r0), .val (.int p1), .val (.int p2)] [])) (fun t k => castTop (ef_rm4 m r0 p1 p2) k) ?_
  refine own_go (G := s₁.setTop (mkF m 1 #[.val (.ref r0), .val (.int p1), .val (.int p2)] [(.ref r0)])) (fun _ k => XS.aloadN X0.here hx rfl (hb hby d4_0) rfl rfl k) ?_
  obtain ⟨T5, X5, e5, st5⟩ := getF X0 hx hZ hown (host := "") (Or.inl (hw _ (List.mem_of_getElem? (i := 10) rfl))) Via.refl e0 F_labels (g := (mkF m 1 #[.val (.ref r0), .val (.int p1), .val (.int p2)] [(.ref r0)])) rfl rfl (hb hby d4_1)
  refine own_go (G := T5.setTop (mkF m 4 #[.val (.ref r0), .val (.int p1), .val (.int p2)] [(.ref lb)])) (st5) ?_
  refine own_go (G := T5.setTop (mkF m 5 #[.val (.ref r0), .val (.int p1), .val (.int p2)] [(.int p1), (.ref lb)])) (fun _ k => XS.iloadN X5.here hx rfl (hb hby d4_4) rfl k) ?_
  refine own_go (G := T5.setTop (mkF m 6 #[.val (.ref r0), .val (.int p1), .val (.int p2)] [(.ref r0), (.int p1), (.ref lb)])) (fun _ k => XS.aloadN X5.here hx rfl (hb hby d4_5) rfl rfl k) ?_
  obtain ⟨T6, X6, e6, st6⟩ := getF X5 hx hZ hown (host := "") (Or.inl (hw _ (List.mem_of_getElem? (i := 19) rfl))) Via.refl e5 F_words (g := (mkF m 6 #[.val (.ref r0), .val (.int p1), .val (.int p2)] [(.ref r0), (.int p1), (.ref lb)])) rfl rfl (hb hby d4_6)
  refine own_go (G := T6.setTop (mkF m 9 #[.val (.ref r0), .val (.int p1), .val (.int p2)] [(.int ww), (.int p1), (.ref lb)])) (st6) ?_
  refine own_go (G := T6.setTop (mkF m 10 #[.val (.ref r0), .val (.int p1), .val (.int p2)] [(.int (p1 * ww)), (.ref lb)])) (fun _ k => XS.imul X6.here hx rfl (hb hby d4_9) rfl k) ?_
  refine own_go (G := T6.setTop (mkF m 11 #[.val (.ref r0), .val (.int p1), .val (.int p2)] [(.int p2), (.int (p1 * ww)), (.ref lb)])) (fun _ k => XS.iloadN X6.here hx rfl (hb hby d4_10) rfl k) ?_
  refine own_go (G := T6.setTop (mkF m 13 #[.val (.ref r0), .val (.int p1), .val (.int p2)] [(.int (64 : Int32)), (.int p2), (.int (p1 * ww)), (.ref lb)])) (fun _ k => XS.bipush X6.here hx rfl (hb hby d4_11) k) ?_
  refine own_go (G := T6.setTop (mkF m 14 #[.val (.ref r0), .val (.int p1), .val (.int p2)] [(.int (p2 / (64 : Int32))), (.int (p1 * ww)), (.ref lb)])) (fun _ k => XS.idiv X6.here hx rfl (hb hby d4_13) rfl (by decide) k) ?_
  refine own_go (G := T6.setTop (mkF m 15 #[.val (.ref r0), .val (.int p1), .val (.int p2)] [(.int ((p1 * ww) + (p2 / (64 : Int32)))), (.ref lb)])) (fun _ k => XS.iadd X6.here hx rfl (hb hby d4_14) rfl k) ?_
  refine own_go (G := T6.setTop (mkF m 16 #[.val (.ref r0), .val (.int p1), .val (.int p2)] [(.long w)])) (X6.laload hx (j := ((p1 * ww) + (p2 / (64 : Int32)))) (v := (.long w)) (by rw [e6]; exact Ar.1) (State.isArrayOf_alike hZ.alike Ar.2.1) Ar.2.2 hin hat (g := (mkF m 15 #[.val (.ref r0), .val (.int p1), .val (.int p2)] [(.int ((p1 * ww) + (p2 / (64 : Int32)))), (.ref lb)])) rfl rfl (hb hby d4_15)) ?_
  refine own_go (G := T6.setTop (mkF m 17 #[.val (.ref r0), .val (.int p1), .val (.int p2)] [(.long (1 : Int64)), (.long w)])) (fun _ k => XS.lconst X6.here hx rfl (hb hby d4_16) k) ?_
  refine own_go (G := T6.setTop (mkF m 18 #[.val (.ref r0), .val (.int p1), .val (.int p2)] [(.int p2), (.long (1 : Int64)), (.long w)])) (fun _ k => XS.iloadN X6.here hx rfl (hb hby d4_17) rfl k) ?_
  refine own_go (G := T6.setTop (mkF m 19 #[.val (.ref r0), .val (.int p1), .val (.int p2)] [(.long ((1 : Int64) <<< (p2 &&& 0x3f).toInt64)), (.long w)])) (fun _ k => XS.lshl X6.here hx rfl (hb hby d4_18) rfl k) ?_
  refine own_go (G := T6.setTop (mkF m 20 #[.val (.ref r0), .val (.int p1), .val (.int p2)] [(.long (w &&& ((1 : Int64) <<< (p2 &&& 0x3f).toInt64)))])) (fun _ k => XS.land X6.here hx rfl (hb hby d4_19) rfl k) ?_
  refine own_go (G := T6.setTop (mkF m 21 #[.val (.ref r0), .val (.int p1), .val (.int p2)] [(.long (0 : Int64)), (.long (w &&& ((1 : Int64) <<< (p2 &&& 0x3f).toInt64)))])) (fun _ k => XS.lconst X6.here hx rfl (hb hby d4_20) k) ?_
  refine own_go (G := T6.setTop (mkF m 22 #[.val (.ref r0), .val (.int p1), .val (.int p2)] [(.int (lcmpW (w &&& ((1 : Int64) <<< (p2 &&& 0x3f).toInt64)) (0 : Int64)))])) (fun _ k => XS.lcmp X6.here hx rfl (hb hby d4_21) rfl k) ?_
  show own_Goes p e below (own_End s (own_Same (.int (if (lcmpW (w &&& ((1 : Int64) <<< (p2 &&& 0x3f).toInt64)) (0 : Int64)) = (0 : Int32) then (0 : Int32) else (1 : Int32))) h0 n0) 0 0) _
  by_cases hc22 : (lcmpW (w &&& ((1 : Int64) <<< (p2 &&& 0x3f).toInt64)) (0 : Int64)) = (0 : Int32)
  · rw [if_pos hc22]
    refine own_go (G := T6.setTop (mkF m 29 #[.val (.ref r0), .val (.int p1), .val (.int p2)] [])) (fun _ k => XS.ifYes X6.here hx rfl (pc0 := 22) (pc' := 29) rfl (hb hby d4_22) rfl ((if0 _ _).trans (teq hc22).1) (by decide) (by decide) k) ?_
    refine own_go (G := T6.setTop (mkF m 30 #[.val (.ref r0), .val (.int p1), .val (.int p2)] [(.int (0 : Int32))])) (fun _ k => XS.iconst X6.here hx rfl (hb hby d4_29) k) ?_
    exact own_ret0 X6 hx Bd.returns (hb hby d4_30) Bd.notSynchronized (by decide) (by decide) ⟨rfl, N0, e6⟩
  · rw [if_neg hc22]
    refine own_go (G := T6.setTop (mkF m 25 #[.val (.ref r0), .val (.int p1), .val (.int p2)] [])) (fun _ k => XS.ifNo X6.here hx rfl (hb hby d4_22) rfl ((if0 _ _).trans (feq hc22).1) k) ?_
    refine own_go (G := T6.setTop (mkF m 26 #[.val (.ref r0), .val (.int p1), .val (.int p2)] [(.int (1 : Int32))])) (fun _ k => XS.iconst X6.here hx rfl (hb hby d4_25) k) ?_
    refine own_go (G := T6.setTop (mkF m 30 #[.val (.ref r0), .val (.int p1), .val (.int p2)] [(.int (1 : Int32))])) (fun _ k => XS.goto X6.here hx rfl (pc0 := 26) (pc' := 30) rfl (hb hby d4_26) (by decide) (by decide) k) ?_
    exact own_ret1 X6 hx Bd.returns (hb hby d4_30) Bd.notSynchronized (by decide) (by decide) ⟨rfl, N0, e6⟩
theorem d5_0 : decode method_3_code 0 = .ok (.iload_n 0, 1) := by decide +kernel
theorem d5_1 : decode method_3_code 1 = .ok (.ifCond .ne 22, 3) := by decide +kernel
theorem d5_4 : decode method_3_code 4 = .ok (.iload_n 1, 1) := by decide +kernel
theorem d5_5 : decode method_3_code 5 = .ok (.bipush 64, 2) := by decide +kernel
theorem d5_7 : decode method_3_code 7 = .ok (.if_icmp .ge 9, 3) := by decide +kernel
theorem d5_10 : decode method_3_code 10 = .ok (.lload_n 2, 1) := by decide +kernel
theorem d5_11 : decode method_3_code 11 = .ok (.lstore 10, 2) := by decide +kernel
theorem d5_13 : decode method_3_code 13 = .ok (.goto 27, 3) := by decide +kernel
theorem d5_16 : decode method_3_code 16 = .ok (.lload 4, 2) := by decide +kernel
theorem d5_18 : decode method_3_code 18 = .ok (.lstore 10, 2) := by decide +kernel
theorem d5_20 : decode method_3_code 20 = .ok (.goto 20, 3) := by decide +kernel
theorem d5_23 : decode method_3_code 23 = .ok (.iload_n 1, 1) := by decide +kernel
theorem d5_24 : decode method_3_code 24 = .ok (.bipush 64, 2) := by decide +kernel
theorem d5_26 : decode method_3_code 26 = .ok (.if_icmp .ge 10, 3) := by decide +kernel
theorem d5_29 : decode method_3_code 29 = .ok (.lload 6, 2) := by decide +kernel
theorem d5_31 : decode method_3_code 31 = .ok (.lstore 10, 2) := by decide +kernel
theorem d5_33 : decode method_3_code 33 = .ok (.goto 7, 3) := by decide +kernel
theorem d5_36 : decode method_3_code 36 = .ok (.lload 8, 2) := by decide +kernel
theorem d5_38 : decode method_3_code 38 = .ok (.lstore 10, 2) := by decide +kernel
theorem d5_40 : decode method_3_code 40 = .ok (.lload 10, 2) := by decide +kernel
theorem d5_42 : decode method_3_code 42 = .ok (.iload_n 1, 1) := by decide +kernel
theorem d5_43 : decode method_3_code 43 = .ok (.bipush 63, 2) := by decide +kernel
theorem d5_45 : decode method_3_code 45 = .ok (.iand, 1) := by decide +kernel
theorem d5_46 : decode method_3_code 46 = .ok (.lushr, 1) := by decide +kernel
theorem d5_47 : decode method_3_code 47 = .ok (.lconst 1, 1) := by decide +kernel
theorem d5_48 : decode method_3_code 48 = .ok (.land, 1) := by decide +kernel
theorem d5_49 : decode method_3_code 49 = .ok (.lconst 0, 1) := by decide +kernel
theorem d5_50 : decode method_3_code 50 = .ok (.lcmp, 1) := by decide +kernel
theorem d5_51 : decode method_3_code 51 = .ok (.ifCond .eq 7, 3) := by decide +kernel
theorem d5_54 : decode method_3_code 54 = .ok (.iconst 1, 1) := by decide +kernel
theorem d5_55 : decode method_3_code 55 = .ok (.goto 4, 3) := by decide +kernel
theorem d5_58 : decode method_3_code 58 = .ok (.iconst 0, 1) := by decide +kernel
theorem d5_59 : decode method_3_code 59 = .ok (.ireturn, 1) := by decide +kernel
theorem pn5 : plainName "com/example/mave/mave/engine/StateGraphHoldsPinLaw" = true := by first | (simp [plainName, overriddenIn]; done) | decide +kernel
theorem ef_rm5 (m : MethodId) (p0 : Int32) (p1 : Int32) (q2 : Int64) (q3 : Int64) (q4 : Int64) (q5 : Int64) : entryFrame m #[(.int p0), (.int p1), (.long q2), (.long q3), (.long q4), (.long q5)] 12 = mkF m 0 #[.val (.int p0), .val (.int p1), .val (.long q2), .second, .val (.long q3), .second, .val (.long q4), .second, .val (.long q5), .second, .unset, .unset] [] := by first | (simp [entryFrame, mkF, argsToLocals, Value.category]; done) | rfl
def F5_40 (p0 : Int32) (p1 : Int32) (q2 : Int64) (q3 : Int64) (q4 : Int64) (q5 : Int64) (l10 : Int64) : Int32 := (if (lcmpW (((l10.toUInt64 >>> ((p1 &&& (63 : Int32)) &&& 0x3f).toInt64.toUInt64).toInt64) &&& (1 : Int64)) (0 : Int64)) = (0 : Int32) then (0 : Int32) else (1 : Int32))
def F5 (p0 : Int32) (p1 : Int32) (q2 : Int64) (q3 : Int64) (q4 : Int64) (q5 : Int64) : Int32 := (if p0 = (0 : Int32) then (if p1 < (64 : Int32) then (F5_40 p0 p1 q2 q3 q4 q5 q2) else (F5_40 p0 p1 q2 q3 q4 q5 q3)) else (if p1 < (64 : Int32) then (F5_40 p0 p1 q2 q3 q4 q5 q4) else (F5_40 p0 p1 q2 q3 q4 q5 q5)))
set_option maxRecDepth 65536 in
set_option maxHeartbeats 40000000 in
theorem rm5 (l : Launch) (Z : State) (a0 : Array Value) (hw : ∀ d ∈ tables_1, d.before a0 Z = true) (ws : List Jvm.Cond) (p0 : Int32) (p1 : Int32) (q2 : Int64) (q3 : Int64) (q4 : Int64) (q5 : Int64) (h0 : Heap) (n0 : Nat) (Z0 : n0 ≤ h0.size) :
    MetFree l (⟨"com/example/mave/mave/engine/StateGraphHoldsPinLaw", "expected", "(IIJJJJ)Z"⟩ : MethodName) (head1 (Jvm.Cond.code (⟨"com/example/mave/mave/engine/StateGraphHoldsPinLaw", "expected", "(IIJJJJ)Z"⟩ : MethodName) method_3_code 12 (some .boolean) :: ws) ({ frames := 0, cells := 0, slots := 0, locals := 0 } : Room)) (fun a U => a = #[(.int p0), (.int p1), (.long q2), (.long q3), (.long q4), (.long q5)] ∧ Z.Warmed39 U.vm ∧ U.heap = h0) (fun _ _ _ _ _ => True) (fun _ U o U' => ∃ v L, o = .returned v ∧ (own_Same (.int (F5 p0 p1 q2 q3 q4 q5)) h0 n0) v U'.heap L ∧ FrameEnd U o U' L 0 0) := by
  refine MetFree.of_bodySF (plainFor_of_name pn5) hisR ?_
  intro p e s m args below meth c s₁ Bd hml0 hP hK
  obtain ⟨rfl, hZ, hh⟩ := hP
  have hx := Bd.exec
  have hby := Bd.bytes
  have hml : c.maxLocals = 12 := hml0
  have hown : s.vm.findClass "com/example/mave/mave/engine/StateGraphHoldsPinLaw" = some m.cls := findClass_of_methodNamed Bd.named
  have hnm := (name_of_methodNamed Bd.named Bd.method).1
  have X0 : Stand p l e ({ frames := 0, cells := 0, slots := 0, locals := 0 } : Room) s m #[(.int p0), (.int p1), (.long q2), (.long q3), (.long q4), (.long q5)] below meth c s₁ [] 0 0 := Stand.of_body Bd
  have e0 : s₁.heap = h0 := by rw [← hh, Bd.state]; rfl
  have N0 := Fr.nil n0
  have j40 : ∀ (l10 : Int64) (T : State) (locs : List Loc) (X : Stand p l e ({ frames := 0, cells := 0, slots := 0, locals := 0 } : Room) s m #[(.int p0), (.int p1), (.long q2), (.long q3), (.long q4), (.long q5)] below meth c T locs 0 0) (eT : T.heap = h0) (N : Fr n0 locs), own_Goes p e below (own_End s (own_Same (.int (F5_40 p0 p1 q2 q3 q4 q5 l10)) h0 n0) 0 0) (T.setTop (mkF m 40 #[.val (.int p0), .val (.int p1), .val (.long q2), .second, .val (.long q3), .second, .val (.long q4), .second, .val (.long q5), .second, .val (.long l10), .second] [])) := by
    intro l10 T locs X eT N
    refine own_go (G := T.setTop (mkF m 42 #[.val (.int p0), .val (.int p1), .val (.long q2), .second, .val (.long q3), .second, .val (.long q4), .second, .val (.long q5), .second, .val (.long l10), .second] [(.long l10)])) (fun _ k => XS.lload X.here hx rfl (hb hby d5_40) rfl k) ?_
    refine own_go (G := T.setTop (mkF m 43 #[.val (.int p0), .val (.int p1), .val (.long q2), .second, .val (.long q3), .second, .val (.long q4), .second, .val (.long q5), .second, .val (.long l10), .second] [(.int p1), (.long l10)])) (fun _ k => XS.iloadN X.here hx rfl (hb hby d5_42) rfl k) ?_
    refine own_go (G := T.setTop (mkF m 45 #[.val (.int p0), .val (.int p1), .val (.long q2), .second, .val (.long q3), .second, .val (.long q4), .second, .val (.long q5), .second, .val (.long l10), .second] [(.int (63 : Int32)), (.int p1), (.long l10)])) (fun _ k => XS.bipush X.here hx rfl (hb hby d5_43) k) ?_
    refine own_go (G := T.setTop (mkF m 46 #[.val (.int p0), .val (.int p1), .val (.long q2), .second, .val (.long q3), .second, .val (.long q4), .second, .val (.long q5), .second, .val (.long l10), .second] [(.int (p1 &&& (63 : Int32))), (.long l10)])) (fun _ k => XS.iand X.here hx rfl (hb hby d5_45) rfl k) ?_
    refine own_go (G := T.setTop (mkF m 47 #[.val (.int p0), .val (.int p1), .val (.long q2), .second, .val (.long q3), .second, .val (.long q4), .second, .val (.long q5), .second, .val (.long l10), .second] [(.long ((l10.toUInt64 >>> ((p1 &&& (63 : Int32)) &&& 0x3f).toInt64.toUInt64).toInt64))])) (fun _ k => XS.lushr X.here hx rfl (hb hby d5_46) rfl k) ?_
    refine own_go (G := T.setTop (mkF m 48 #[.val (.int p0), .val (.int p1), .val (.long q2), .second, .val (.long q3), .second, .val (.long q4), .second, .val (.long q5), .second, .val (.long l10), .second] [(.long (1 : Int64)), (.long ((l10.toUInt64 >>> ((p1 &&& (63 : Int32)) &&& 0x3f).toInt64.toUInt64).toInt64))])) (fun _ k => XS.lconst X.here hx rfl (hb hby d5_47) k) ?_
    refine own_go (G := T.setTop (mkF m 49 #[.val (.int p0), .val (.int p1), .val (.long q2), .second, .val (.long q3), .second, .val (.long q4), .second, .val (.long q5), .second, .val (.long l10), .second] [(.long (((l10.toUInt64 >>> ((p1 &&& (63 : Int32)) &&& 0x3f).toInt64.toUInt64).toInt64) &&& (1 : Int64)))])) (fun _ k => XS.land X.here hx rfl (hb hby d5_48) rfl k) ?_
    refine own_go (G := T.setTop (mkF m 50 #[.val (.int p0), .val (.int p1), .val (.long q2), .second, .val (.long q3), .second, .val (.long q4), .second, .val (.long q5), .second, .val (.long l10), .second] [(.long (0 : Int64)), (.long (((l10.toUInt64 >>> ((p1 &&& (63 : Int32)) &&& 0x3f).toInt64.toUInt64).toInt64) &&& (1 : Int64)))])) (fun _ k => XS.lconst X.here hx rfl (hb hby d5_49) k) ?_
    refine own_go (G := T.setTop (mkF m 51 #[.val (.int p0), .val (.int p1), .val (.long q2), .second, .val (.long q3), .second, .val (.long q4), .second, .val (.long q5), .second, .val (.long l10), .second] [(.int (lcmpW (((l10.toUInt64 >>> ((p1 &&& (63 : Int32)) &&& 0x3f).toInt64.toUInt64).toInt64) &&& (1 : Int64)) (0 : Int64)))])) (fun _ k => XS.lcmp X.here hx rfl (hb hby d5_50) rfl k) ?_
    show own_Goes p e below (own_End s (own_Same (.int (if (lcmpW (((l10.toUInt64 >>> ((p1 &&& (63 : Int32)) &&& 0x3f).toInt64.toUInt64).toInt64) &&& (1 : Int64)) (0 : Int64)) = (0 : Int32) then (0 : Int32) else (1 : Int32))) h0 n0) 0 0) _
    by_cases hc51 : (lcmpW (((l10.toUInt64 >>> ((p1 &&& (63 : Int32)) &&& 0x3f).toInt64.toUInt64).toInt64) &&& (1 : Int64)) (0 : Int64)) = (0 : Int32)
    · rw [if_pos hc51]
      refine own_go (G := T.setTop (mkF m 58 #[.val (.int p0), .val (.int p1), .val (.long q2), .second, .val (.long q3), .second, .val (.long q4), .second, .val (.long q5), .second, .val (.long l10), .second] [])) (fun _ k => XS.ifYes X.here hx rfl (pc0 := 51) (pc' := 58) rfl (hb hby d5_51) rfl ((if0 _ _).trans (teq hc51).1) (by decide) (by decide) k) ?_
      refine own_go (G := T.setTop (mkF m 59 #[.val (.int p0), .val (.int p1), .val (.long q2), .second, .val (.long q3), .second, .val (.long q4), .second, .val (.long q5), .second, .val (.long l10), .second] [(.int (0 : Int32))])) (fun _ k => XS.iconst X.here hx rfl (hb hby d5_58) k) ?_
      exact own_ret0 X hx Bd.returns (hb hby d5_59) Bd.notSynchronized (by decide) (by decide) ⟨rfl, N, eT⟩
    · rw [if_neg hc51]
      refine own_go (G := T.setTop (mkF m 54 #[.val (.int p0), .val (.int p1), .val (.long q2), .second, .val (.long q3), .second, .val (.long q4), .second, .val (.long q5), .second, .val (.long l10), .second] [])) (fun _ k => XS.ifNo X.here hx rfl (hb hby d5_51) rfl ((if0 _ _).trans (feq hc51).1) k) ?_
      refine own_go (G := T.setTop (mkF m 55 #[.val (.int p0), .val (.int p1), .val (.long q2), .second, .val (.long q3), .second, .val (.long q4), .second, .val (.long q5), .second, .val (.long l10), .second] [(.int (1 : Int32))])) (fun _ k => XS.iconst X.here hx rfl (hb hby d5_54) k) ?_
      refine own_go (G := T.setTop (mkF m 59 #[.val (.int p0), .val (.int p1), .val (.long q2), .second, .val (.long q3), .second, .val (.long q4), .second, .val (.long q5), .second, .val (.long l10), .second] [(.int (1 : Int32))])) (fun _ k => XS.goto X.here hx rfl (pc0 := 55) (pc' := 59) rfl (hb hby d5_55) (by decide) (by decide) k) ?_
      exact own_ret1 X hx Bd.returns (hb hby d5_59) Bd.notSynchronized (by decide) (by decide) ⟨rfl, N, eT⟩
  show own_Goes p e below (own_End s (own_Same (.int (F5 p0 p1 q2 q3 q4 q5)) h0 n0) 0 0) _
  refine own_go (G := s₁.setTop (mkF m 0 #[.val (.int p0), .val (.int p1), .val (.long q2), .second, .val (.long q3), .second, .val (.long q4), .second, .val (.long q5), .second, .unset, .unset] [])) (fun t k => castTop (ef_rm5 m p0 p1 q2 q3 q4 q5) k) ?_
  refine own_go (G := s₁.setTop (mkF m 1 #[.val (.int p0), .val (.int p1), .val (.long q2), .second, .val (.long q3), .second, .val (.long q4), .second, .val (.long q5), .second, .unset, .unset] [(.int p0)])) (fun _ k => XS.iloadN X0.here hx rfl (hb hby d5_0) rfl k) ?_
  show own_Goes p e below (own_End s (own_Same (.int (if p0 = (0 : Int32) then (if p1 < (64 : Int32) then (F5_40 p0 p1 q2 q3 q4 q5 q2) else (F5_40 p0 p1 q2 q3 q4 q5 q3)) else (if p1 < (64 : Int32) then (F5_40 p0 p1 q2 q3 q4 q5 q4) else (F5_40 p0 p1 q2 q3 q4 q5 q5)))) h0 n0) 0 0) _
  by_cases hc1 : p0 = (0 : Int32)
  · rw [if_pos hc1]
    refine own_go (G := s₁.setTop (mkF m 4 #[.val (.int p0), .val (.int p1), .val (.long q2), .second, .val (.long q3), .second, .val (.long q4), .second, .val (.long q5), .second, .unset, .unset] [])) (fun _ k => XS.ifNo X0.here hx rfl (hb hby d5_1) rfl ((if0 _ _).trans (teq hc1).2) k) ?_
    refine own_go (G := s₁.setTop (mkF m 5 #[.val (.int p0), .val (.int p1), .val (.long q2), .second, .val (.long q3), .second, .val (.long q4), .second, .val (.long q5), .second, .unset, .unset] [(.int p1)])) (fun _ k => XS.iloadN X0.here hx rfl (hb hby d5_4) rfl k) ?_
    refine own_go (G := s₁.setTop (mkF m 7 #[.val (.int p0), .val (.int p1), .val (.long q2), .second, .val (.long q3), .second, .val (.long q4), .second, .val (.long q5), .second, .unset, .unset] [(.int (64 : Int32)), (.int p1)])) (fun _ k => XS.bipush X0.here hx rfl (hb hby d5_5) k) ?_
    show own_Goes p e below (own_End s (own_Same (.int (if p1 < (64 : Int32) then (F5_40 p0 p1 q2 q3 q4 q5 q2) else (F5_40 p0 p1 q2 q3 q4 q5 q3))) h0 n0) 0 0) _
    by_cases hc7 : p1 < (64 : Int32)
    · rw [if_pos hc7]
      refine own_go (G := s₁.setTop (mkF m 10 #[.val (.int p0), .val (.int p1), .val (.long q2), .second, .val (.long q3), .second, .val (.long q4), .second, .val (.long q5), .second, .unset, .unset] [])) (fun _ k => XS.icmpNo X0.here hx rfl (hb hby d5_7) rfl (tlt hc7).2.1 k) ?_
      refine own_go (G := s₁.setTop (mkF m 11 #[.val (.int p0), .val (.int p1), .val (.long q2), .second, .val (.long q3), .second, .val (.long q4), .second, .val (.long q5), .second, .unset, .unset] [(.long q2)])) (fun _ k => XS.lloadN X0.here hx rfl (hb hby d5_10) rfl k) ?_
      refine own_go (G := s₁.setTop (mkF m 13 #[.val (.int p0), .val (.int p1), .val (.long q2), .second, .val (.long q3), .second, .val (.long q4), .second, .val (.long q5), .second, .val (.long q2), .second] [])) (fun _ k => XS.lstore X0.here hx rfl (hb hby d5_11) rfl (l' := #[.val (.int p0), .val (.int p1), .val (.long q2), .second, .val (.long q3), .second, .val (.long q4), .second, .val (.long q5), .second, .val (.long q2), .second]) rfl k) ?_
      refine own_go (G := s₁.setTop (mkF m 40 #[.val (.int p0), .val (.int p1), .val (.long q2), .second, .val (.long q3), .second, .val (.long q4), .second, .val (.long q5), .second, .val (.long q2), .second] [])) (fun _ k => XS.goto X0.here hx rfl (pc0 := 13) (pc' := 40) rfl (hb hby d5_13) (by decide) (by decide) k) ?_
      exact j40 q2 _ _ X0 e0 N0
    · rw [if_neg hc7]
      refine own_go (G := s₁.setTop (mkF m 16 #[.val (.int p0), .val (.int p1), .val (.long q2), .second, .val (.long q3), .second, .val (.long q4), .second, .val (.long q5), .second, .unset, .unset] [])) (fun _ k => XS.icmpYes X0.here hx rfl (pc0 := 7) (pc' := 16) rfl (hb hby d5_7) rfl (flt hc7).2.1 (by decide) (by decide) k) ?_
      refine own_go (G := s₁.setTop (mkF m 18 #[.val (.int p0), .val (.int p1), .val (.long q2), .second, .val (.long q3), .second, .val (.long q4), .second, .val (.long q5), .second, .unset, .unset] [(.long q3)])) (fun _ k => XS.lload X0.here hx rfl (hb hby d5_16) rfl k) ?_
      refine own_go (G := s₁.setTop (mkF m 20 #[.val (.int p0), .val (.int p1), .val (.long q2), .second, .val (.long q3), .second, .val (.long q4), .second, .val (.long q5), .second, .val (.long q3), .second] [])) (fun _ k => XS.lstore X0.here hx rfl (hb hby d5_18) rfl (l' := #[.val (.int p0), .val (.int p1), .val (.long q2), .second, .val (.long q3), .second, .val (.long q4), .second, .val (.long q5), .second, .val (.long q3), .second]) rfl k) ?_
      refine own_go (G := s₁.setTop (mkF m 40 #[.val (.int p0), .val (.int p1), .val (.long q2), .second, .val (.long q3), .second, .val (.long q4), .second, .val (.long q5), .second, .val (.long q3), .second] [])) (fun _ k => XS.goto X0.here hx rfl (pc0 := 20) (pc' := 40) rfl (hb hby d5_20) (by decide) (by decide) k) ?_
      exact j40 q3 _ _ X0 e0 N0
  · rw [if_neg hc1]
    refine own_go (G := s₁.setTop (mkF m 23 #[.val (.int p0), .val (.int p1), .val (.long q2), .second, .val (.long q3), .second, .val (.long q4), .second, .val (.long q5), .second, .unset, .unset] [])) (fun _ k => XS.ifYes X0.here hx rfl (pc0 := 1) (pc' := 23) rfl (hb hby d5_1) rfl ((if0 _ _).trans (feq hc1).2) (by decide) (by decide) k) ?_
    refine own_go (G := s₁.setTop (mkF m 24 #[.val (.int p0), .val (.int p1), .val (.long q2), .second, .val (.long q3), .second, .val (.long q4), .second, .val (.long q5), .second, .unset, .unset] [(.int p1)])) (fun _ k => XS.iloadN X0.here hx rfl (hb hby d5_23) rfl k) ?_
    refine own_go (G := s₁.setTop (mkF m 26 #[.val (.int p0), .val (.int p1), .val (.long q2), .second, .val (.long q3), .second, .val (.long q4), .second, .val (.long q5), .second, .unset, .unset] [(.int (64 : Int32)), (.int p1)])) (fun _ k => XS.bipush X0.here hx rfl (hb hby d5_24) k) ?_
    show own_Goes p e below (own_End s (own_Same (.int (if p1 < (64 : Int32) then (F5_40 p0 p1 q2 q3 q4 q5 q4) else (F5_40 p0 p1 q2 q3 q4 q5 q5))) h0 n0) 0 0) _
    by_cases hc26 : p1 < (64 : Int32)
    · rw [if_pos hc26]
      refine own_go (G := s₁.setTop (mkF m 29 #[.val (.int p0), .val (.int p1), .val (.long q2), .second, .val (.long q3), .second, .val (.long q4), .second, .val (.long q5), .second, .unset, .unset] [])) (fun _ k => XS.icmpNo X0.here hx rfl (hb hby d5_26) rfl (tlt hc26).2.1 k) ?_
      refine own_go (G := s₁.setTop (mkF m 31 #[.val (.int p0), .val (.int p1), .val (.long q2), .second, .val (.long q3), .second, .val (.long q4), .second, .val (.long q5), .second, .unset, .unset] [(.long q4)])) (fun _ k => XS.lload X0.here hx rfl (hb hby d5_29) rfl k) ?_
      refine own_go (G := s₁.setTop (mkF m 33 #[.val (.int p0), .val (.int p1), .val (.long q2), .second, .val (.long q3), .second, .val (.long q4), .second, .val (.long q5), .second, .val (.long q4), .second] [])) (fun _ k => XS.lstore X0.here hx rfl (hb hby d5_31) rfl (l' := #[.val (.int p0), .val (.int p1), .val (.long q2), .second, .val (.long q3), .second, .val (.long q4), .second, .val (.long q5), .second, .val (.long q4), .second]) rfl k) ?_
      refine own_go (G := s₁.setTop (mkF m 40 #[.val (.int p0), .val (.int p1), .val (.long q2), .second, .val (.long q3), .second, .val (.long q4), .second, .val (.long q5), .second, .val (.long q4), .second] [])) (fun _ k => XS.goto X0.here hx rfl (pc0 := 33) (pc' := 40) rfl (hb hby d5_33) (by decide) (by decide) k) ?_
      exact j40 q4 _ _ X0 e0 N0
    · rw [if_neg hc26]
      refine own_go (G := s₁.setTop (mkF m 36 #[.val (.int p0), .val (.int p1), .val (.long q2), .second, .val (.long q3), .second, .val (.long q4), .second, .val (.long q5), .second, .unset, .unset] [])) (fun _ k => XS.icmpYes X0.here hx rfl (pc0 := 26) (pc' := 36) rfl (hb hby d5_26) rfl (flt hc26).2.1 (by decide) (by decide) k) ?_
      refine own_go (G := s₁.setTop (mkF m 38 #[.val (.int p0), .val (.int p1), .val (.long q2), .second, .val (.long q3), .second, .val (.long q4), .second, .val (.long q5), .second, .unset, .unset] [(.long q5)])) (fun _ k => XS.lload X0.here hx rfl (hb hby d5_36) rfl k) ?_
      refine own_go (G := s₁.setTop (mkF m 40 #[.val (.int p0), .val (.int p1), .val (.long q2), .second, .val (.long q3), .second, .val (.long q4), .second, .val (.long q5), .second, .val (.long q5), .second] [])) (fun _ k => XS.lstore X0.here hx rfl (hb hby d5_38) rfl (l' := #[.val (.int p0), .val (.int p1), .val (.long q2), .second, .val (.long q3), .second, .val (.long q4), .second, .val (.long q5), .second, .val (.long q5), .second]) rfl k) ?_
      exact j40 q5 _ _ X0 e0 N0
theorem own_v1 {p v : Int32} (h : (p &&& (127 : Int32)) + (1 : Int32) = v) : 1 ≤ v.toInt ∧ v.toInt ≤ 128 := by
  have a := c_mask p 127 7 (by decide) (by decide)
  have b := c_iadd (p &&& 127) 1
  rw [h, show (1 : Int32).toInt = 1 from rfl] at b
  have r := rng32 v
  omega
theorem own_nz {p v : Int32} (h : (p &&& (127 : Int32)) + (1 : Int32) = v) : v ≠ 0 := by
  have a := own_v1 h
  intro q
  rw [q, show (0 : Int32).toInt = 0 from rfl] at a
  omega
theorem own_bit {p v : Int32} (h : p &&& (1 : Int32) = v) : v = (0 : Int32) ∨ v = (1 : Int32) := by
  have a := c_mask p 1 1 (by decide) (by decide)
  rw [h] at a
  rw [own_ie, own_ie, show (0 : Int32).toInt = 0 from rfl, show (1 : Int32).toInt = 1 from rfl]
  omega
theorem own_roads {p q v1 v2 v3 : Int32} (h1 : (p &&& (127 : Int32)) + (1 : Int32) = v1) (h2 : q &&& (1 : Int32) = v2) (h3 : ((q.toUInt32 >>> ((1 : Int32) &&& 31).toUInt32).toInt32) % v1 = v3) :
    (((v1 + (64 : Int32)) - (1 : Int32)) / (64 : Int32) = (1 : Int32) ∧ v3 / (64 : Int32) = (0 : Int32)) ∨ (((v1 + (64 : Int32)) - (1 : Int32)) / (64 : Int32) = (2 : Int32) ∧ v3 / (64 : Int32) = (0 : Int32)) ∨ (((v1 + (64 : Int32)) - (1 : Int32)) / (64 : Int32) = (2 : Int32) ∧ v3 / (64 : Int32) = (1 : Int32)) := by
  have a := own_v1 h1
  have b := c_iushr q 1 1 (by decide) (by decide)
  have c := (c_iremV ((q.toUInt32 >>> ((1 : Int32) &&& 31).toUInt32).toInt32) v1).1 (by rw [b]; omega) (by omega)
  rw [h3] at c
  have d := c_iadd v1 64
  rw [show (64 : Int32).toInt = 64 from rfl] at d
  have r1 := rng32 (v1 + 64)
  have e := c_isub (v1 + 64) 1
  rw [show (1 : Int32).toInt = 1 from rfl] at e
  have r2 := rng32 (v1 + 64 - 1)
  have f := (c_idiv (v1 + 64 - 1) 64 64 rfl (by decide)).1 (by omega)
  have g := (c_idiv v3 64 64 rfl (by decide)).1 (by omega)
  simp only [own_ie, f, g, show (0 : Int32).toInt = 0 from rfl, show (1 : Int32).toInt = 1 from rfl, show (2 : Int32).toInt = 2 from rfl]
  omega
theorem own_bv (a : BitVec 64) (k : Nat) (hk : k < 64) : (a &&& (1#64 <<< k) = 0#64) ↔ ((a >>> k) &&& 1#64 = 0#64) := by
  have e1 : 1#64 <<< k = BitVec.twoPow 64 k := rfl
  rw [e1, BitVec.and_twoPow, BitVec.and_one_eq_setWidth_ofBool_getLsbD, BitVec.getLsbD_ushiftRight, Nat.add_zero]
  cases h : a.getLsbD k
  · simp
  · have z : (BitVec.twoPow 64 k).getLsbD k = true := by simp [BitVec.getLsbD_twoPow, hk]
    refine ⟨fun q => ?_, fun q => ?_⟩
    · simp only [if_true] at q
      rw [q] at z
      simp at z
    · simp at q
theorem own_core (w : Int64) (k : Int32) : lcmpW (w &&& ((1 : Int64) <<< (k &&& 0x3f).toInt64)) (0 : Int64) = (0 : Int32) ↔ lcmpW (((w.toUInt64 >>> ((k &&& (63 : Int32)) &&& 0x3f).toInt64.toUInt64).toInt64) &&& (1 : Int64)) (0 : Int64) = (0 : Int32) := by
  obtain ⟨a1, a2⟩ := sm64 k _ rfl
  have e : (k &&& (63 : Int32)).toBitVec.toNat % 64 = k.toBitVec.toNat % 64 := by
    show (k.toBitVec &&& (63 : Int32).toBitVec).toNat % 64 = _
    rw [BitVec.toNat_and, show (63 : Int32).toBitVec.toNat = 2 ^ 6 - 1 from by decide, Nat.and_two_pow_sub_one_eq_mod]; omega
  obtain ⟨b1, b2⟩ := sm64 (k &&& 63) _ e
  rw [lw_eq, lw_eq, ← Int64.toBitVec_inj, ← Int64.toBitVec_inj]
  have s1 : (w &&& ((1 : Int64) <<< (k &&& 0x3f).toInt64)).toBitVec = w.toBitVec &&& (1#64 <<< (k.toBitVec.toNat % 64)) := by
    show w.toBitVec &&& ((1 : Int64).toBitVec <<< ((k &&& 0x3f).toInt64.toBitVec.smod 64)) = _
    rw [BitVec.shiftLeft_eq', a1, smod64 _ a2]; rfl
  have s2 : (((w.toUInt64 >>> ((k &&& (63 : Int32)) &&& 0x3f).toInt64.toUInt64).toInt64) &&& (1 : Int64)).toBitVec = (w.toBitVec >>> (k.toBitVec.toNat % 64)) &&& 1#64 := by
    show (w.toBitVec >>> (((k &&& (63 : Int32)) &&& 0x3f).toInt64.toBitVec % 64)) &&& (1 : Int64).toBitVec = _
    rw [BitVec.ushiftRight_eq', b1, BitVec.toNat_umod, BitVec.toNat_ofNat, show k.toBitVec.toNat % 64 % 2 ^ 64 % (64 : BitVec 64).toNat = k.toBitVec.toNat % 64 from by show k.toBitVec.toNat % 64 % 2 ^ 64 % 64 = _; omega]; rfl
  rw [s1, s2]
  exact own_bv _ _ a2
theorem own_q0 {v : Int32} (h : v / (64 : Int32) = (0 : Int32)) : v < (64 : Int32) := by
  have g := c_idiv v 64 64 rfl (by decide)
  rw [h, show (0 : Int32).toInt = 0 from rfl] at g
  rw [Int32.lt_iff_toInt_lt, show (64 : Int32).toInt = 64 from rfl]
  rcases Int.lt_or_le v.toInt 0 with q | q
  · omega
  · have := g.1 q; omega
theorem own_q1 {v : Int32} (h : v / (64 : Int32) = (1 : Int32)) : ¬ v < (64 : Int32) := by
  have g := c_idiv v 64 64 rfl (by decide)
  rw [h, show (1 : Int32).toInt = 1 from rfl] at g
  rw [Int32.lt_iff_toInt_lt, show (64 : Int32).toInt = 64 from rfl]
  rcases Int.lt_or_le v.toInt 0 with q | q
  · have := g.2 q; omega
  · have := g.1 q; omega
theorem own_fin00 {b ww v : Int32} {g lb : Addr} {cl : Cell} {q2 q3 q4 q5 : Int64} (hb : b / (64 : Int32) = (0 : Int32)) (h : F4 g (0 : Int32) b ww lb cl q2 = v) : v = F5 (0 : Int32) b q2 q3 q4 q5 := by
  rw [← h]; simp only [F4, F5, F5_40, if_pos (own_q0 hb), own_core, if_true]
theorem own_fin01 {b ww v : Int32} {g lb : Addr} {cl : Cell} {q2 q3 q4 q5 : Int64} (hb : b / (64 : Int32) = (0 : Int32)) (h : F4 g (1 : Int32) b ww lb cl q4 = v) : v = F5 (1 : Int32) b q2 q3 q4 q5 := by
  rw [← h]; simp only [F4, F5, F5_40, if_pos (own_q0 hb), own_core, if_neg (show ¬ (1 : Int32) = 0 by decide)]
theorem own_fin10 {b ww v : Int32} {g lb : Addr} {cl : Cell} {q2 q3 q4 q5 : Int64} (hb : b / (64 : Int32) = (1 : Int32)) (h : F4 g (0 : Int32) b ww lb cl q3 = v) : v = F5 (0 : Int32) b q2 q3 q4 q5 := by
  rw [← h]; simp only [F4, F5, F5_40, if_neg (own_q1 hb), own_core, if_true]
theorem own_fin11 {b ww v : Int32} {g lb : Addr} {cl : Cell} {q2 q3 q4 q5 : Int64} (hb : b / (64 : Int32) = (1 : Int32)) (h : F4 g (1 : Int32) b ww lb cl q5 = v) : v = F5 (1 : Int32) b q2 q3 q4 q5 := by
  rw [← h]; simp only [F4, F5, F5_40, if_neg (own_q1 hb), own_core, if_neg (show ¬ (1 : Int32) = 0 by decide)]

theorem pn0 : plainName "com/example/mave/mave/engine/StateGraphHoldsPinLaw" = true := by first | (simp [plainName, overriddenIn]; done) | decide +kernel
theorem pd0 : parseMethodDescriptor "(I)V" = some ⟨[.int], none⟩ := by decide +kernel
theorem pd1 : parseMethodDescriptor "(I[J)V" = some ⟨[.int, (.array .long)], none⟩ := by decide +kernel
theorem pd2 : parseMethodDescriptor "(II)Z" = some ⟨[.int, .int], some .boolean⟩ := by decide +kernel
theorem pd3 : parseMethodDescriptor "(IIJJJJ)Z" = some ⟨[.int, .int, .long, .long, .long, .long], some .boolean⟩ := by decide +kernel
theorem ef_rm0 (m : MethodId) (p0 : Int32) (p1 : Int32) (q2 : Int64) (q3 : Int64) (q4 : Int64) (q5 : Int64) : entryFrame m #[(.int p0), (.int p1), (.long q2), (.long q3), (.long q4), (.long q5)] maxLocals = mkF m 0 #[.val (.int p0), .val (.int p1), .val (.long q2), .second, .val (.long q3), .second, .val (.long q4), .second, .val (.long q5), .second, .unset, .unset, .unset, .unset, .unset, .unset, .unset] [] := by first | (simp [entryFrame, mkF, argsToLocals, Value.category, maxLocals]; done) | rfl
set_option maxRecDepth 65536 in
set_option maxHeartbeats 40000000 in
theorem rm0 (l : Launch) (Z : State) (a0 : Array Value) (hw : ∀ d ∈ tables_1, d.before a0 Z = true) (ws : List Jvm.Cond) (p0 : Int32) (p1 : Int32) (q2 : Int64) (q3 : Int64) (q4 : Int64) (q5 : Int64) (h0 : Heap) (n0 : Nat) (Z0 : n0 ≤ h0.size) :
    MetFree l x (head1 (Jvm.Cond.code x code maxLocals ret :: ws) room_1) (fun a U => a = #[(.int p0), (.int p1), (.long q2), (.long q3), (.long q4), (.long q5)] ∧ Z.Warmed39 U.vm ∧ U.heap = h0) (fun _ _ _ _ _ => True) (fun _ U o U' => ∃ v L, o = .returned v ∧ (own_True n0) v U'.heap L ∧ FrameEnd U o U' L 24 8320) := by
  refine MetFree.of_bodySF (plainFor_of_name pn0) hisR ?_
  intro p e s m args below meth c s₁ Bd hml0 hP hK
  obtain ⟨rfl, hZ, hh⟩ := hP
  have hx := Bd.exec
  have hby := Bd.bytes
  have hml : c.maxLocals = 17 := hml0
  have hown : s.vm.findClass "com/example/mave/mave/engine/StateGraphHoldsPinLaw" = some m.cls := findClass_of_methodNamed Bd.named
  have hnm := (name_of_methodNamed Bd.named Bd.method).1
  have X0 : Stand p l e room_1 s m #[(.int p0), (.int p1), (.long q2), (.long q3), (.long q4), (.long q5)] below meth c s₁ [] 0 0 := Stand.of_body Bd
  have e0 : s₁.heap = h0 := by rw [← hh, Bd.state]; rfl
  have N0 := Fr.nil n0
  show own_Goes p e below (own_End s (own_True n0) 24 8320) _
  refine own_go (G := s₁.setTop (mkF m 0 #[.val (.int p0), .val (.int p1), .val (.long q2), .second, .val (.long q3), .second, .val (.long q4), .second, .val (.long q5), .second, .unset, .unset, .unset, .unset, .unset, .unset, .unset] [])) (fun t k => castTop (ef_rm0 m p0 p1 q2 q3 q4 q5) k) ?_
  refine own_go (G := s₁.setTop (mkF m 1 #[.val (.int p0), .val (.int p1), .val (.long q2), .second, .val (.long q3), .second, .val (.long q4), .second, .val (.long q5), .second, .unset, .unset, .unset, .unset, .unset, .unset, .unset] [(.int p0)])) (fun _ k => XS.iloadN X0.here hx rfl (hb hby at_0) rfl k) ?_
  refine own_go (G := s₁.setTop (mkF m 3 #[.val (.int p0), .val (.int p1), .val (.long q2), .second, .val (.long q3), .second, .val (.long q4), .second, .val (.long q5), .second, .unset, .unset, .unset, .unset, .unset, .unset, .unset] [(.int (127 : Int32)), (.int p0)])) (fun _ k => XS.bipush X0.here hx rfl (hb hby at_1) k) ?_
  refine own_go (G := s₁.setTop (mkF m 4 #[.val (.int p0), .val (.int p1), .val (.long q2), .second, .val (.long q3), .second, .val (.long q4), .second, .val (.long q5), .second, .unset, .unset, .unset, .unset, .unset, .unset, .unset] [(.int (p0 &&& (127 : Int32)))])) (fun _ k => XS.iand X0.here hx rfl (hb hby at_3) rfl k) ?_
  refine own_go (G := s₁.setTop (mkF m 5 #[.val (.int p0), .val (.int p1), .val (.long q2), .second, .val (.long q3), .second, .val (.long q4), .second, .val (.long q5), .second, .unset, .unset, .unset, .unset, .unset, .unset, .unset] [(.int (1 : Int32)), (.int (p0 &&& (127 : Int32)))])) (fun _ k => XS.iconst X0.here hx rfl (hb hby at_4) k) ?_
  refine own_go (G := s₁.setTop (mkF m 6 #[.val (.int p0), .val (.int p1), .val (.long q2), .second, .val (.long q3), .second, .val (.long q4), .second, .val (.long q5), .second, .unset, .unset, .unset, .unset, .unset, .unset, .unset] [(.int ((p0 &&& (127 : Int32)) + (1 : Int32)))])) (fun _ k => XS.iadd X0.here hx rfl (hb hby at_5) rfl k) ?_
  generalize hv1 : ((p0 &&& (127 : Int32)) + (1 : Int32)) = v1
  refine own_go (G := s₁.setTop (mkF m 8 #[.val (.int p0), .val (.int p1), .val (.long q2), .second, .val (.long q3), .second, .val (.long q4), .second, .val (.long q5), .second, .val (.int v1), .unset, .unset, .unset, .unset, .unset, .unset] [])) (fun _ k => XS.istore X0.here hx rfl (hb hby at_6) rfl (l' := #[.val (.int p0), .val (.int p1), .val (.long q2), .second, .val (.long q3), .second, .val (.long q4), .second, .val (.long q5), .second, .val (.int v1), .unset, .unset, .unset, .unset, .unset, .unset]) rfl k) ?_
  refine own_go (G := s₁.setTop (mkF m 9 #[.val (.int p0), .val (.int p1), .val (.long q2), .second, .val (.long q3), .second, .val (.long q4), .second, .val (.long q5), .second, .val (.int v1), .unset, .unset, .unset, .unset, .unset, .unset] [(.int p1)])) (fun _ k => XS.iloadN X0.here hx rfl (hb hby at_8) rfl k) ?_
  refine own_go (G := s₁.setTop (mkF m 10 #[.val (.int p0), .val (.int p1), .val (.long q2), .second, .val (.long q3), .second, .val (.long q4), .second, .val (.long q5), .second, .val (.int v1), .unset, .unset, .unset, .unset, .unset, .unset] [(.int (1 : Int32)), (.int p1)])) (fun _ k => XS.iconst X0.here hx rfl (hb hby at_9) k) ?_
  refine own_go (G := s₁.setTop (mkF m 11 #[.val (.int p0), .val (.int p1), .val (.long q2), .second, .val (.long q3), .second, .val (.long q4), .second, .val (.long q5), .second, .val (.int v1), .unset, .unset, .unset, .unset, .unset, .unset] [(.int (p1 &&& (1 : Int32)))])) (fun _ k => XS.iand X0.here hx rfl (hb hby at_10) rfl k) ?_
  generalize hv2 : (p1 &&& (1 : Int32)) = v2
  refine own_go (G := s₁.setTop (mkF m 13 #[.val (.int p0), .val (.int p1), .val (.long q2), .second, .val (.long q3), .second, .val (.long q4), .second, .val (.long q5), .second, .val (.int v1), .val (.int v2), .unset, .unset, .unset, .unset, .unset] [])) (fun _ k => XS.istore X0.here hx rfl (hb hby at_11) rfl (l' := #[.val (.int p0), .val (.int p1), .val (.long q2), .second, .val (.long q3), .second, .val (.long q4), .second, .val (.long q5), .second, .val (.int v1), .val (.int v2), .unset, .unset, .unset, .unset, .unset]) rfl k) ?_
  refine own_go (G := s₁.setTop (mkF m 14 #[.val (.int p0), .val (.int p1), .val (.long q2), .second, .val (.long q3), .second, .val (.long q4), .second, .val (.long q5), .second, .val (.int v1), .val (.int v2), .unset, .unset, .unset, .unset, .unset] [(.int p1)])) (fun _ k => XS.iloadN X0.here hx rfl (hb hby at_13) rfl k) ?_
  refine own_go (G := s₁.setTop (mkF m 15 #[.val (.int p0), .val (.int p1), .val (.long q2), .second, .val (.long q3), .second, .val (.long q4), .second, .val (.long q5), .second, .val (.int v1), .val (.int v2), .unset, .unset, .unset, .unset, .unset] [(.int (1 : Int32)), (.int p1)])) (fun _ k => XS.iconst X0.here hx rfl (hb hby at_14) k) ?_
  refine own_go (G := s₁.setTop (mkF m 16 #[.val (.int p0), .val (.int p1), .val (.long q2), .second, .val (.long q3), .second, .val (.long q4), .second, .val (.long q5), .second, .val (.int v1), .val (.int v2), .unset, .unset, .unset, .unset, .unset] [(.int ((p1.toUInt32 >>> ((1 : Int32) &&& 31).toUInt32).toInt32))])) (fun _ k => XS.iushr X0.here hx rfl (hb hby at_15) rfl k) ?_
  refine own_go (G := s₁.setTop (mkF m 18 #[.val (.int p0), .val (.int p1), .val (.long q2), .second, .val (.long q3), .second, .val (.long q4), .second, .val (.long q5), .second, .val (.int v1), .val (.int v2), .unset, .unset, .unset, .unset, .unset] [(.int v1), (.int ((p1.toUInt32 >>> ((1 : Int32) &&& 31).toUInt32).toInt32))])) (fun _ k => XS.iload X0.here hx rfl (hb hby at_16) rfl k) ?_
  refine own_go (G := s₁.setTop (mkF m 19 #[.val (.int p0), .val (.int p1), .val (.long q2), .second, .val (.long q3), .second, .val (.long q4), .second, .val (.long q5), .second, .val (.int v1), .val (.int v2), .unset, .unset, .unset, .unset, .unset] [(.int (((p1.toUInt32 >>> ((1 : Int32) &&& 31).toUInt32).toInt32) % v1))])) (fun _ k => iremM X0 hx rfl (hb hby at_18) rfl (own_nz hv1) k) ?_
  generalize hv3 : (((p1.toUInt32 >>> ((1 : Int32) &&& 31).toUInt32).toInt32) % v1) = v3
  refine own_go (G := s₁.setTop (mkF m 21 #[.val (.int p0), .val (.int p1), .val (.long q2), .second, .val (.long q3), .second, .val (.long q4), .second, .val (.long q5), .second, .val (.int v1), .val (.int v2), .val (.int v3), .unset, .unset, .unset, .unset] [])) (fun _ k => XS.istore X0.here hx rfl (hb hby at_19) rfl (l' := #[.val (.int p0), .val (.int p1), .val (.long q2), .second, .val (.long q3), .second, .val (.long q4), .second, .val (.long q5), .second, .val (.int v1), .val (.int v2), .val (.int v3), .unset, .unset, .unset, .unset]) rfl k) ?_
  refine own_go (G := s₁.setTop (mkF m 22 #[.val (.int p0), .val (.int p1), .val (.long q2), .second, .val (.long q3), .second, .val (.long q4), .second, .val (.long q5), .second, .val (.int v1), .val (.int v2), .val (.int v3), .unset, .unset, .unset, .unset] [(.int (2 : Int32))])) (fun _ k => XS.iconst X0.here hx rfl (hb hby at_21) k) ?_
  obtain ⟨T4, h4, k4, X4, e4, E4, A4, st4⟩ := newP X0 hx hZ (hw _ (List.mem_of_getElem? (i := 0) rfl)) e0 (g := (mkF m 22 #[.val (.int p0), .val (.int p1), .val (.long q2), .second, .val (.long q3), .second, .val (.long q4), .second, .val (.long q5), .second, .val (.int v1), .val (.int v2), .val (.int v3), .unset, .unset, .unset, .unset] [(.int (2 : Int32))])) rfl (hb hby at_22) rfl (by decide) (cap := 2) (by decide) (by decide) (by decide) (by decide)
  obtain ⟨b4, g4⟩ : ∃ z, z = h0.size := ⟨_, rfl⟩
  rw [← g4] at A4 st4
  have gn_b4 : n0 ≤ b4 := Nat.le_trans Z0 (Nat.le_of_eq g4.symm)
  have Z4 : n0 ≤ h4.size := Nat.le_trans Z0 E4.1
  have V_b4 : Arv Z h4 b4 k4 .long (2 : Int32) [(.long (0 : Int64)), (.long (0 : Int64))] (.long (0 : Int64)) := (Arv.new A4 (by decide)).pad (pad_rep [] (.long (0 : Int64)) 2)
  refine own_go (G := T4.setTop (mkF m 24 #[.val (.int p0), .val (.int p1), .val (.long q2), .second, .val (.long q3), .second, .val (.long q4), .second, .val (.long q5), .second, .val (.int v1), .val (.int v2), .val (.int v3), .unset, .unset, .unset, .unset] [(.ref b4)])) (st4) ?_
  refine own_go (G := T4.setTop (mkF m 26 #[.val (.int p0), .val (.int p1), .val (.long q2), .second, .val (.long q3), .second, .val (.long q4), .second, .val (.long q5), .second, .val (.int v1), .val (.int v2), .val (.int v3), .val (.ref b4), .unset, .unset, .unset] [])) (fun _ k => XS.astore X4.here hx rfl (hb hby at_24) rfl rfl (l' := #[.val (.int p0), .val (.int p1), .val (.long q2), .second, .val (.long q3), .second, .val (.long q4), .second, .val (.long q5), .second, .val (.int v1), .val (.int v2), .val (.int v3), .val (.ref b4), .unset, .unset, .unset]) rfl k) ?_
  refine own_go (G := T4.setTop (mkF m 28 #[.val (.int p0), .val (.int p1), .val (.long q2), .second, .val (.long q3), .second, .val (.long q4), .second, .val (.long q5), .second, .val (.int v1), .val (.int v2), .val (.int v3), .val (.ref b4), .unset, .unset, .unset] [(.ref b4)])) (fun _ k => XS.aload X4.here hx rfl (hb hby at_26) rfl rfl k) ?_
  refine own_go (G := T4.setTop (mkF m 29 #[.val (.int p0), .val (.int p1), .val (.long q2), .second, .val (.long q3), .second, .val (.long q4), .second, .val (.long q5), .second, .val (.int v1), .val (.int v2), .val (.int v3), .val (.ref b4), .unset, .unset, .unset] [(.int (0 : Int32)), (.ref b4)])) (fun _ k => XS.iconst X4.here hx rfl (hb hby at_28) k) ?_
  refine own_go (G := T4.setTop (mkF m 30 #[.val (.int p0), .val (.int p1), .val (.long q2), .second, .val (.long q3), .second, .val (.long q4), .second, .val (.long q5), .second, .val (.int v1), .val (.int v2), .val (.int v3), .val (.ref b4), .unset, .unset, .unset] [(.long q2), (.int (0 : Int32)), (.ref b4)])) (fun _ k => XS.lloadN X4.here hx rfl (hb hby at_29) rfl k) ?_
  obtain ⟨cl5, Ar5, qk5, S5, N5_, Ha5, G5⟩ := id V_b4
  have hin5 : ¬ ((0 : Int32) < 0 ∨ cl5.slots.size ≤ ((0 : Int32)).toNatClampNeg) := inb_of S5 ⟨by decide, by decide⟩
  obtain ⟨T5, h5, X5, e5, W5, st5⟩ := stJ X4 hx hZ e4 Ar5 (j := (0 : Int32)) hin5 (g := (mkF m 30 #[.val (.int p0), .val (.int p1), .val (.long q2), .second, .val (.long q3), .second, .val (.long q4), .second, .val (.long q5), .second, .val (.int v1), .val (.int v2), .val (.int v3), .val (.ref b4), .unset, .unset, .unset] [(.long q2), (.int (0 : Int32)), (.ref b4)])) rfl rfl (hb hby at_30)
  have V5_b4 : Arv Z h5 b4 k4 .long (2 : Int32) [(.long q2), (.long (0 : Int64))] (.long (0 : Int64)) := Arv.set Ar5 qk5 S5 N5_ Ha5 G5 rfl W5 0 rfl (Nat.le_of_ble_eq_true rfl)
  have N5 := Fr.snoc X5 N0 gn_b4
  have Z5 : n0 ≤ h5.size := Nat.le_trans Z4 (Keep.of_wr W5).1
  refine own_go (G := T5.setTop (mkF m 31 #[.val (.int p0), .val (.int p1), .val (.long q2), .second, .val (.long q3), .second, .val (.long q4), .second, .val (.long q5), .second, .val (.int v1), .val (.int v2), .val (.int v3), .val (.ref b4), .unset, .unset, .unset] [])) (st5) ?_
  refine own_go (G := T5.setTop (mkF m 33 #[.val (.int p0), .val (.int p1), .val (.long q2), .second, .val (.long q3), .second, .val (.long q4), .second, .val (.long q5), .second, .val (.int v1), .val (.int v2), .val (.int v3), .val (.ref b4), .unset, .unset, .unset] [(.ref b4)])) (fun _ k => XS.aload X5.here hx rfl (hb hby at_31) rfl rfl k) ?_
  refine own_go (G := T5.setTop (mkF m 34 #[.val (.int p0), .val (.int p1), .val (.long q2), .second, .val (.long q3), .second, .val (.long q4), .second, .val (.long q5), .second, .val (.int v1), .val (.int v2), .val (.int v3), .val (.ref b4), .unset, .unset, .unset] [(.int (1 : Int32)), (.ref b4)])) (fun _ k => XS.iconst X5.here hx rfl (hb hby at_33) k) ?_
  refine own_go (G := T5.setTop (mkF m 36 #[.val (.int p0), .val (.int p1), .val (.long q2), .second, .val (.long q3), .second, .val (.long q4), .second, .val (.long q5), .second, .val (.int v1), .val (.int v2), .val (.int v3), .val (.ref b4), .unset, .unset, .unset] [(.long q3), (.int (1 : Int32)), (.ref b4)])) (fun _ k => XS.lload X5.here hx rfl (hb hby at_34) rfl k) ?_
  obtain ⟨cl6, Ar6, qk6, S6, N6_, Ha6, G6⟩ := id V5_b4
  have hin6 : ¬ ((1 : Int32) < 0 ∨ cl6.slots.size ≤ ((1 : Int32)).toNatClampNeg) := inb_of S6 ⟨by decide, by decide⟩
  obtain ⟨T6, h6, X6, e6, W6, st6⟩ := stJ X5 hx hZ e5 Ar6 (j := (1 : Int32)) hin6 (g := (mkF m 36 #[.val (.int p0), .val (.int p1), .val (.long q2), .second, .val (.long q3), .second, .val (.long q4), .second, .val (.long q5), .second, .val (.int v1), .val (.int v2), .val (.int v3), .val (.ref b4), .unset, .unset, .unset] [(.long q3), (.int (1 : Int32)), (.ref b4)])) rfl rfl (hb hby at_36)
  have V6_b4 : Arv Z h6 b4 k4 .long (2 : Int32) [(.long q2), (.long q3)] (.long (0 : Int64)) := Arv.set Ar6 qk6 S6 N6_ Ha6 G6 rfl W6 1 rfl (Nat.le_of_ble_eq_true rfl)
  have N6 := Fr.snoc X6 N5 gn_b4
  have Z6 : n0 ≤ h6.size := Nat.le_trans Z5 (Keep.of_wr W6).1
  refine own_go (G := T6.setTop (mkF m 37 #[.val (.int p0), .val (.int p1), .val (.long q2), .second, .val (.long q3), .second, .val (.long q4), .second, .val (.long q5), .second, .val (.int v1), .val (.int v2), .val (.int v3), .val (.ref b4), .unset, .unset, .unset] [])) (st6) ?_
  refine own_go (G := T6.setTop (mkF m 38 #[.val (.int p0), .val (.int p1), .val (.long q2), .second, .val (.long q3), .second, .val (.long q4), .second, .val (.long q5), .second, .val (.int v1), .val (.int v2), .val (.int v3), .val (.ref b4), .unset, .unset, .unset] [(.int (2 : Int32))])) (fun _ k => XS.iconst X6.here hx rfl (hb hby at_37) k) ?_
  obtain ⟨T7, h7, k7, X7, e7, E7, A7, st7⟩ := newP X6 hx hZ (hw _ (List.mem_of_getElem? (i := 0) rfl)) e6 (g := (mkF m 38 #[.val (.int p0), .val (.int p1), .val (.long q2), .second, .val (.long q3), .second, .val (.long q4), .second, .val (.long q5), .second, .val (.int v1), .val (.int v2), .val (.int v3), .val (.ref b4), .unset, .unset, .unset] [(.int (2 : Int32))])) rfl (hb hby at_38) rfl (by decide) (cap := 2) (by decide) (by decide) (by decide) (by decide)
  obtain ⟨b7, g7⟩ : ∃ z, z = h6.size := ⟨_, rfl⟩
  rw [← g7] at A7 st7
  have gn_b7 : n0 ≤ b7 := Nat.le_trans Z6 (Nat.le_of_eq g7.symm)
  have ne_b4_b7 : b4 ≠ b7 := Nat.ne_of_lt (Nat.lt_of_lt_of_le V6_b4.lt (Nat.le_of_eq g7.symm))
  have V6_b4_c7 : Arv Z h7 b4 k4 .long (2 : Int32) [(.long q2), (.long q3)] (.long (0 : Int64)) := V6_b4.ext E7
  have Z7 : n0 ≤ h7.size := Nat.le_trans Z6 E7.1
  have V_b7 : Arv Z h7 b7 k7 .long (2 : Int32) [(.long (0 : Int64)), (.long (0 : Int64))] (.long (0 : Int64)) := (Arv.new A7 (by decide)).pad (pad_rep [] (.long (0 : Int64)) 2)
  refine own_go (G := T7.setTop (mkF m 40 #[.val (.int p0), .val (.int p1), .val (.long q2), .second, .val (.long q3), .second, .val (.long q4), .second, .val (.long q5), .second, .val (.int v1), .val (.int v2), .val (.int v3), .val (.ref b4), .unset, .unset, .unset] [(.ref b7)])) (st7) ?_
  refine own_go (G := T7.setTop (mkF m 42 #[.val (.int p0), .val (.int p1), .val (.long q2), .second, .val (.long q3), .second, .val (.long q4), .second, .val (.long q5), .second, .val (.int v1), .val (.int v2), .val (.int v3), .val (.ref b4), .val (.ref b7), .unset, .unset] [])) (fun _ k => XS.astore X7.here hx rfl (hb hby at_40) rfl rfl (l' := #[.val (.int p0), .val (.int p1), .val (.long q2), .second, .val (.long q3), .second, .val (.long q4), .second, .val (.long q5), .second, .val (.int v1), .val (.int v2), .val (.int v3), .val (.ref b4), .val (.ref b7), .unset, .unset]) rfl k) ?_
  refine own_go (G := T7.setTop (mkF m 44 #[.val (.int p0), .val (.int p1), .val (.long q2), .second, .val (.long q3), .second, .val (.long q4), .second, .val (.long q5), .second, .val (.int v1), .val (.int v2), .val (.int v3), .val (.ref b4), .val (.ref b7), .unset, .unset] [(.ref b7)])) (fun _ k => XS.aload X7.here hx rfl (hb hby at_42) rfl rfl k) ?_
  refine own_go (G := T7.setTop (mkF m 45 #[.val (.int p0), .val (.int p1), .val (.long q2), .second, .val (.long q3), .second, .val (.long q4), .second, .val (.long q5), .second, .val (.int v1), .val (.int v2), .val (.int v3), .val (.ref b4), .val (.ref b7), .unset, .unset] [(.int (0 : Int32)), (.ref b7)])) (fun _ k => XS.iconst X7.here hx rfl (hb hby at_44) k) ?_
  refine own_go (G := T7.setTop (mkF m 47 #[.val (.int p0), .val (.int p1), .val (.long q2), .second, .val (.long q3), .second, .val (.long q4), .second, .val (.long q5), .second, .val (.int v1), .val (.int v2), .val (.int v3), .val (.ref b4), .val (.ref b7), .unset, .unset] [(.long q4), (.int (0 : Int32)), (.ref b7)])) (fun _ k => XS.lload X7.here hx rfl (hb hby at_45) rfl k) ?_
  obtain ⟨cl8, Ar8, qk8, S8, N8_, Ha8, G8⟩ := id V_b7
  have hin8 : ¬ ((0 : Int32) < 0 ∨ cl8.slots.size ≤ ((0 : Int32)).toNatClampNeg) := inb_of S8 ⟨by decide, by decide⟩
  obtain ⟨T8, h8, X8, e8, W8, st8⟩ := stJ X7 hx hZ e7 Ar8 (j := (0 : Int32)) hin8 (g := (mkF m 47 #[.val (.int p0), .val (.int p1), .val (.long q2), .second, .val (.long q3), .second, .val (.long q4), .second, .val (.long q5), .second, .val (.int v1), .val (.int v2), .val (.int v3), .val (.ref b4), .val (.ref b7), .unset, .unset] [(.long q4), (.int (0 : Int32)), (.ref b7)])) rfl rfl (hb hby at_47)
  have V8_b7 : Arv Z h8 b7 k7 .long (2 : Int32) [(.long q4), (.long (0 : Int64))] (.long (0 : Int64)) := Arv.set Ar8 qk8 S8 N8_ Ha8 G8 rfl W8 0 rfl (Nat.le_of_ble_eq_true rfl)
  have V6_b4_c8 : Arv Z h8 b4 k4 .long (2 : Int32) [(.long q2), (.long q3)] (.long (0 : Int64)) := V6_b4_c7.other W8 ne_b4_b7
  have N8 := Fr.snoc X8 N6 gn_b7
  have Z8 : n0 ≤ h8.size := Nat.le_trans Z7 (Keep.of_wr W8).1
  refine own_go (G := T8.setTop (mkF m 48 #[.val (.int p0), .val (.int p1), .val (.long q2), .second, .val (.long q3), .second, .val (.long q4), .second, .val (.long q5), .second, .val (.int v1), .val (.int v2), .val (.int v3), .val (.ref b4), .val (.ref b7), .unset, .unset] [])) (st8) ?_
  refine own_go (G := T8.setTop (mkF m 50 #[.val (.int p0), .val (.int p1), .val (.long q2), .second, .val (.long q3), .second, .val (.long q4), .second, .val (.long q5), .second, .val (.int v1), .val (.int v2), .val (.int v3), .val (.ref b4), .val (.ref b7), .unset, .unset] [(.ref b7)])) (fun _ k => XS.aload X8.here hx rfl (hb hby at_48) rfl rfl k) ?_
  refine own_go (G := T8.setTop (mkF m 51 #[.val (.int p0), .val (.int p1), .val (.long q2), .second, .val (.long q3), .second, .val (.long q4), .second, .val (.long q5), .second, .val (.int v1), .val (.int v2), .val (.int v3), .val (.ref b4), .val (.ref b7), .unset, .unset] [(.int (1 : Int32)), (.ref b7)])) (fun _ k => XS.iconst X8.here hx rfl (hb hby at_50) k) ?_
  refine own_go (G := T8.setTop (mkF m 53 #[.val (.int p0), .val (.int p1), .val (.long q2), .second, .val (.long q3), .second, .val (.long q4), .second, .val (.long q5), .second, .val (.int v1), .val (.int v2), .val (.int v3), .val (.ref b4), .val (.ref b7), .unset, .unset] [(.long q5), (.int (1 : Int32)), (.ref b7)])) (fun _ k => XS.lload X8.here hx rfl (hb hby at_51) rfl k) ?_
  obtain ⟨cl9, Ar9, qk9, S9, N9_, Ha9, G9⟩ := id V8_b7
  have hin9 : ¬ ((1 : Int32) < 0 ∨ cl9.slots.size ≤ ((1 : Int32)).toNatClampNeg) := inb_of S9 ⟨by decide, by decide⟩
  obtain ⟨T9, h9, X9, e9, W9, st9⟩ := stJ X8 hx hZ e8 Ar9 (j := (1 : Int32)) hin9 (g := (mkF m 53 #[.val (.int p0), .val (.int p1), .val (.long q2), .second, .val (.long q3), .second, .val (.long q4), .second, .val (.long q5), .second, .val (.int v1), .val (.int v2), .val (.int v3), .val (.ref b4), .val (.ref b7), .unset, .unset] [(.long q5), (.int (1 : Int32)), (.ref b7)])) rfl rfl (hb hby at_53)
  have V9_b7 : Arv Z h9 b7 k7 .long (2 : Int32) [(.long q4), (.long q5)] (.long (0 : Int64)) := Arv.set Ar9 qk9 S9 N9_ Ha9 G9 rfl W9 1 rfl (Nat.le_of_ble_eq_true rfl)
  have V6_b4_c9 : Arv Z h9 b4 k4 .long (2 : Int32) [(.long q2), (.long q3)] (.long (0 : Int64)) := V6_b4_c8.other W9 ne_b4_b7
  have N9 := Fr.snoc X9 N8 gn_b7
  have Z9 : n0 ≤ h9.size := Nat.le_trans Z8 (Keep.of_wr W9).1
  refine own_go (G := T9.setTop (mkF m 54 #[.val (.int p0), .val (.int p1), .val (.long q2), .second, .val (.long q3), .second, .val (.long q4), .second, .val (.long q5), .second, .val (.int v1), .val (.int v2), .val (.int v3), .val (.ref b4), .val (.ref b7), .unset, .unset] [])) (st9) ?_
  obtain ⟨T10, h10, X10, e10, E10, A10, D10, -, st10⟩ := newO X9 hx hZ hown (hw _ (List.mem_of_getElem? (i := 1) rfl)) (hw _ (List.mem_of_getElem? (i := 2) rfl)) (hw _ (List.mem_of_getElem? (i := 3) rfl)) e9 (g := (mkF m 54 #[.val (.int p0), .val (.int p1), .val (.long q2), .second, .val (.long q3), .second, .val (.long q4), .second, .val (.long q5), .second, .val (.int v1), .val (.int v2), .val (.int v3), .val (.ref b4), .val (.ref b7), .unset, .unset] [])) rfl (hb hby at_54) (by decide) (by decide)
  obtain ⟨b10, g10⟩ : ∃ z, z = h9.size := ⟨_, rfl⟩
  rw [← g10] at A10 D10 st10
  have gn_b10 : n0 ≤ b10 := Nat.le_trans Z9 (Nat.le_of_eq g10.symm)
  have ne_b4_b10 : b4 ≠ b10 := Nat.ne_of_lt (Nat.lt_of_lt_of_le V6_b4_c9.lt (Nat.le_of_eq g10.symm))
  have ne_b7_b10 : b7 ≠ b10 := Nat.ne_of_lt (Nat.lt_of_lt_of_le V9_b7.lt (Nat.le_of_eq g10.symm))
  have V6_b4_c10 : Arv Z h10 b4 k4 .long (2 : Int32) [(.long q2), (.long q3)] (.long (0 : Int64)) := V6_b4_c9.ext E10
  have V9_b7_c10 : Arv Z h10 b7 k7 .long (2 : Int32) [(.long q4), (.long q5)] (.long (0 : Int64)) := V9_b7.ext E10
  have Z10 : n0 ≤ h10.size := Nat.le_trans Z9 E10.1
  have F_labels_b10 : Fld Z h10 b10 "com/example/mave/mave/engine/StateGraph" "labels" "[J" .null := D10 (Or.inl (hw _ (List.mem_of_getElem? (i := 11) rfl))) (ty := (.array .long)) (by decide)
  have F_firsts_b10 : Fld Z h10 b10 "com/example/mave/mave/engine/StateGraph" "firsts" "[I" .null := D10 (Or.inl (hw _ (List.mem_of_getElem? (i := 14) rfl))) (ty := (.array .int)) (by decide)
  have F_targets_b10 : Fld Z h10 b10 "com/example/mave/mave/engine/StateGraph" "targets" "[I" .null := D10 (Or.inl (hw _ (List.mem_of_getElem? (i := 16) rfl))) (ty := (.array .int)) (by decide)
  have F_movers_b10 : Fld Z h10 b10 "com/example/mave/mave/engine/StateGraph" "movers" "[I" .null := D10 (Or.inl (hw _ (List.mem_of_getElem? (i := 18) rfl))) (ty := (.array .int)) (by decide)
  have F_words_b10 : Fld Z h10 b10 "com/example/mave/mave/engine/StateGraph" "words" "I" (.int (0 : Int32)) := D10 (Or.inr (hw _ (List.mem_of_getElem? (i := 20) rfl))) (ty := .int) (by decide)
  refine own_go (G := T10.setTop (mkF m 57 #[.val (.int p0), .val (.int p1), .val (.long q2), .second, .val (.long q3), .second, .val (.long q4), .second, .val (.long q5), .second, .val (.int v1), .val (.int v2), .val (.int v3), .val (.ref b4), .val (.ref b7), .unset, .unset] [(.ref b10)])) (st10) ?_
  refine own_go (G := T10.setTop (mkF m 58 #[.val (.int p0), .val (.int p1), .val (.long q2), .second, .val (.long q3), .second, .val (.long q4), .second, .val (.long q5), .second, .val (.int v1), .val (.int v2), .val (.int v3), .val (.ref b4), .val (.ref b7), .unset, .unset] [(.ref b10), (.ref b10)])) (fun _ k => XS.dup X10.here hx rfl (hb hby at_57) rfl rfl k) ?_
  refine own_go (G := T10.setTop (mkF m 60 #[.val (.int p0), .val (.int p1), .val (.long q2), .second, .val (.long q3), .second, .val (.long q4), .second, .val (.long q5), .second, .val (.int v1), .val (.int v2), .val (.int v3), .val (.ref b4), .val (.ref b7), .unset, .unset] [(.int v1), (.ref b10), (.ref b10)])) (fun _ k => XS.iload X10.here hx rfl (hb hby at_58) rfl k) ?_
  obtain ⟨_, _, ⟨T11, L11, k11, n11⟩, -, X11, ⟨Lc11, hQ11, l11, y11, z11⟩, st11⟩ := X10.specialBack hx (y := (⟨"com/example/mave/mave/engine/StateGraph", "<init>", "(I)V"⟩ : MethodName)) rfl hown (mvT hZ (hw _ (List.mem_of_getElem? (i := 4) rfl))) (mvT hZ (hw _ (List.mem_of_getElem? (i := 5) rfl))) (mvT hZ (hw _ (List.mem_of_getElem? (i := 6) rfl))) (by decide) (backOf (W := 1) (rm1 l Z a0 hw [] b10 v1 h10 n0 Z10 F_labels_b10 F_firsts_b10 F_targets_b10 F_movers_b10 F_words_b10 A10 gn_b10) hZ (hw _ (List.mem_of_getElem? (i := 6) rfl)) (hw _ (List.mem_of_getElem? (i := 3) rfl)) (by decide) (by decide)) (g := (mkF m 60 #[.val (.int p0), .val (.int p1), .val (.long q2), .second, .val (.long q3), .second, .val (.long q4), .second, .val (.long q5), .second, .val (.int v1), .val (.int v2), .val (.int v3), .val (.ref b4), .val (.ref b7), .unset, .unset] [(.int v1), (.ref b10), (.ref b10)])) rfl (by rw [hml]; rfl) (Steps.refl _) (a := b10) (argsL := [(.int v1)]) (rest := [(.ref b10)]) (lenOf pd0 rfl) rfl (by show 2 * 0 + _ ≤ _; exact Nat.le_of_eq rfl) (hb hby at_60) (fun _ _ => ⟨rfl, e10, (by decide : 3 + 4 ≤ _), (by decide : 11 + 4096 ≤ _)⟩)
  dsimp only [Pt.U, Pt.locs, Pt.cells, Pt.slots] at X11 l11 y11 z11 st11 hQ11
  subst l11 y11 z11
  obtain ⟨rfl, Nq11, Kq11, Eq11, Fq11_words, lb, kl, gn_lb, szl, Fq11_labels, Vl⟩ := hQ11
  have N11 := Fr.app N9 Nq11
  have ne_b4_lb : b4 ≠ lb := Nat.ne_of_lt (Nat.lt_of_lt_of_le V6_b4_c10.lt szl)
  have ne_b7_lb : b7 ≠ lb := Nat.ne_of_lt (Nat.lt_of_lt_of_le V9_b7_c10.lt szl)
  have ne_b10_lb : b10 ≠ lb := Nat.ne_of_lt (Nat.lt_of_lt_of_le A10.lt szl)
  have V6_b4_c11 : Arv Z T11.heap b4 k4 .long (2 : Int32) [(.long q2), (.long q3)] (.long (0 : Int64)) := V6_b4_c10.keep Kq11 (ninS ne_b4_b10 nin0)
  have V9_b7_c11 : Arv Z T11.heap b7 k7 .long (2 : Int32) [(.long q4), (.long q5)] (.long (0 : Int64)) := V9_b7_c10.keep Kq11 (ninS ne_b7_b10 nin0)
  have Z11 : n0 ≤ T11.heap.size := Nat.le_trans Z10 Kq11.1
  have Vl4 : Arv Z T11.heap lb kl .long (1024 : Int32) [(.long (0 : Int64)), (.long (0 : Int64)), (.long (0 : Int64)), (.long (0 : Int64))] (.long (0 : Int64)) := Vl.pad (pad_rep [] (.long (0 : Int64)) 4)
  refine own_go (G := T11.setTop (mkF m 63 #[.val (.int p0), .val (.int p1), .val (.long q2), .second, .val (.long q3), .second, .val (.long q4), .second, .val (.long q5), .second, .val (.int v1), .val (.int v2), .val (.int v3), .val (.ref b4), .val (.ref b7), .unset, .unset] [(.ref b10)])) (fun _ k => st11.trans k) ?_
  refine own_go (G := T11.setTop (mkF m 65 #[.val (.int p0), .val (.int p1), .val (.long q2), .second, .val (.long q3), .second, .val (.long q4), .second, .val (.long q5), .second, .val (.int v1), .val (.int v2), .val (.int v3), .val (.ref b4), .val (.ref b7), .val (.ref b10), .unset] [])) (fun _ k => XS.astore X11.here hx rfl (hb hby at_63) rfl rfl (l' := #[.val (.int p0), .val (.int p1), .val (.long q2), .second, .val (.long q3), .second, .val (.long q4), .second, .val (.long q5), .second, .val (.int v1), .val (.int v2), .val (.int v3), .val (.ref b4), .val (.ref b7), .val (.ref b10), .unset]) rfl k) ?_
  rcases own_roads hv1 hv2 hv3 with ⟨hww, hbit⟩ | ⟨hww, hbit⟩ | ⟨hww, hbit⟩
  · rw [hww] at Fq11_words
    rcases own_bit hv2 with hsv | hsv
    · subst hsv
      refine own_go (G := T11.setTop (mkF m 67 #[.val (.int p0), .val (.int p1), .val (.long q2), .second, .val (.long q3), .second, .val (.long q4), .second, .val (.long q5), .second, .val (.int v1), .val (.int (0 : Int32)), .val (.int v3), .val (.ref b4), .val (.ref b7), .val (.ref b10), .unset] [(.ref b10)])) (fun _ k => XS.aload X11.here hx rfl (hb hby at_65) rfl rfl k) ?_
      refine own_go (G := T11.setTop (mkF m 68 #[.val (.int p0), .val (.int p1), .val (.long q2), .second, .val (.long q3), .second, .val (.long q4), .second, .val (.long q5), .second, .val (.int v1), .val (.int (0 : Int32)), .val (.int v3), .val (.ref b4), .val (.ref b7), .val (.ref b10), .unset] [(.int (0 : Int32)), (.ref b10)])) (fun _ k => XS.iconst X11.here hx rfl (hb hby at_67) k) ?_
      refine own_go (G := T11.setTop (mkF m 70 #[.val (.int p0), .val (.int p1), .val (.long q2), .second, .val (.long q3), .second, .val (.long q4), .second, .val (.long q5), .second, .val (.int v1), .val (.int (0 : Int32)), .val (.int v3), .val (.ref b4), .val (.ref b7), .val (.ref b10), .unset] [(.ref b4), (.int (0 : Int32)), (.ref b10)])) (fun _ k => XS.aload X11.here hx rfl (hb hby at_68) rfl rfl k) ?_
      obtain ⟨cq12, kq12, qk12a, qk12b, qk12c⟩ := isOf hZ rfl Eq11
      obtain ⟨_, _, ⟨T12, L12, k12, n12⟩, -, X12, ⟨Lc12, hQ12, l12, y12, z12⟩, st12⟩ := X11.virtualBack hx (y := (⟨"com/example/mave/mave/engine/StateGraph", "label", "(I[J)V"⟩ : MethodName)) (z := (⟨"com/example/mave/mave/engine/StateGraph", "label", "(I[J)V"⟩ : MethodName)) hown (mvT hZ (hw _ (List.mem_of_getElem? (i := 21) rfl))) (mvT hZ (hw _ (List.mem_of_getElem? (i := 22) rfl))) (notFace_of_selects (args := #[]) (mvT hZ (hw _ (List.mem_of_getElem? (i := 24) rfl)))) (mvT hZ (hw _ (List.mem_of_getElem? (i := 24) rfl))) (mvT hZ (hw _ (List.mem_of_getElem? (i := 23) rfl))) (by decide) (backOf (W := 0) (rm3 l Z a0 hw [] b10 (0 : Int32) b4 (1 : Int32) lb k4 kl [(.long q2), (.long q3)] [(.long (0 : Int64)), (.long (0 : Int64)), (.long (0 : Int64)), (.long (0 : Int64))] T11.heap n0 Z11 Fq11_words Fq11_labels V6_b4_c11 Vl4 gn_lb ne_b4_lb ne_b10_lb (by decide) (by decide) (by decide) (by decide) (by decide) (Nat.le_of_ble_eq_true rfl)) hZ (hw _ (List.mem_of_getElem? (i := 25) rfl)) (hw _ (List.mem_of_getElem? (i := 3) rfl)) (by decide) (by decide)) qk12a qk12c (g := (mkF m 70 #[.val (.int p0), .val (.int p1), .val (.long q2), .second, .val (.long q3), .second, .val (.long q4), .second, .val (.long q5), .second, .val (.int v1), .val (.int (0 : Int32)), .val (.int v3), .val (.ref b4), .val (.ref b7), .val (.ref b10), .unset] [(.ref b4), (.int (0 : Int32)), (.ref b10)])) rfl (by rw [hml]; rfl) (Steps.refl _) (argsL := [(.int (0 : Int32)), (.ref b4)]) (rest := []) (lenOf pd1 rfl) rfl (by show 2 * 0 + _ ≤ _; exact Nat.le_of_eq rfl) (hb hby at_70) (fun _ _ => ⟨rfl, rfl, (by decide : 7 + 0 ≤ _), (by decide : 4107 + 0 ≤ _)⟩)
      dsimp only [Pt.U, Pt.locs, Pt.cells, Pt.slots] at X12 l12 y12 z12 st12 hQ12
      subst l12 y12 z12
      obtain ⟨rfl, Nq12, Kq12, Vq12⟩ := hQ12
      have N12 := Fr.app N11 Nq12
      have V6_b4_c12 : Arv Z T12.heap b4 k4 .long (2 : Int32) [(.long q2), (.long q3)] (.long (0 : Int64)) := V6_b4_c11.keep Kq12 (ninS ne_b4_lb nin0)
      have V9_b7_c12 : Arv Z T12.heap b7 k7 .long (2 : Int32) [(.long q4), (.long q5)] (.long (0 : Int64)) := V9_b7_c11.keep Kq12 (ninS ne_b7_lb nin0)
      have Eq11_c12 : Exa Z T12.heap b10 "com/example/mave/mave/engine/StateGraph" := Eq11.keep Kq12
      have Fq11_labels_c12 : Fld Z T12.heap b10 "com/example/mave/mave/engine/StateGraph" "labels" "[J" (.ref lb) := Fq11_labels.keep Kq12 (ninS ne_b10_lb nin0)
      have Fq11_words_c12 : Fld Z T12.heap b10 "com/example/mave/mave/engine/StateGraph" "words" "I" (.int (1 : Int32)) := Fq11_words.keep Kq12 (ninS ne_b10_lb nin0)
      have Z12 : n0 ≤ T12.heap.size := Nat.le_trans Z11 Kq12.1
      have Vn12 : Arv Z T12.heap lb kl .long (1024 : Int32) [(.long q2), (.long (0 : Int64)), (.long (0 : Int64)), (.long (0 : Int64))] (.long (0 : Int64)) := Vq12
      refine own_go (G := T12.setTop (mkF m 73 #[.val (.int p0), .val (.int p1), .val (.long q2), .second, .val (.long q3), .second, .val (.long q4), .second, .val (.long q5), .second, .val (.int v1), .val (.int (0 : Int32)), .val (.int v3), .val (.ref b4), .val (.ref b7), .val (.ref b10), .unset] [])) (fun _ k => st12.trans k) ?_
      refine own_go (G := T12.setTop (mkF m 75 #[.val (.int p0), .val (.int p1), .val (.long q2), .second, .val (.long q3), .second, .val (.long q4), .second, .val (.long q5), .second, .val (.int v1), .val (.int (0 : Int32)), .val (.int v3), .val (.ref b4), .val (.ref b7), .val (.ref b10), .unset] [(.ref b10)])) (fun _ k => XS.aload X12.here hx rfl (hb hby at_73) rfl rfl k) ?_
      refine own_go (G := T12.setTop (mkF m 76 #[.val (.int p0), .val (.int p1), .val (.long q2), .second, .val (.long q3), .second, .val (.long q4), .second, .val (.long q5), .second, .val (.int v1), .val (.int (0 : Int32)), .val (.int v3), .val (.ref b4), .val (.ref b7), .val (.ref b10), .unset] [(.int (1 : Int32)), (.ref b10)])) (fun _ k => XS.iconst X12.here hx rfl (hb hby at_75) k) ?_
      refine own_go (G := T12.setTop (mkF m 78 #[.val (.int p0), .val (.int p1), .val (.long q2), .second, .val (.long q3), .second, .val (.long q4), .second, .val (.long q5), .second, .val (.int v1), .val (.int (0 : Int32)), .val (.int v3), .val (.ref b4), .val (.ref b7), .val (.ref b10), .unset] [(.ref b7), (.int (1 : Int32)), (.ref b10)])) (fun _ k => XS.aload X12.here hx rfl (hb hby at_76) rfl rfl k) ?_
      obtain ⟨cq13, kq13, qk13a, qk13b, qk13c⟩ := isOf hZ rfl Eq11_c12
      obtain ⟨_, _, ⟨T13, L13, k13, n13⟩, -, X13, ⟨Lc13, hQ13, l13, y13, z13⟩, st13⟩ := X12.virtualBack hx (y := (⟨"com/example/mave/mave/engine/StateGraph", "label", "(I[J)V"⟩ : MethodName)) (z := (⟨"com/example/mave/mave/engine/StateGraph", "label", "(I[J)V"⟩ : MethodName)) hown (mvT hZ (hw _ (List.mem_of_getElem? (i := 21) rfl))) (mvT hZ (hw _ (List.mem_of_getElem? (i := 22) rfl))) (notFace_of_selects (args := #[]) (mvT hZ (hw _ (List.mem_of_getElem? (i := 24) rfl)))) (mvT hZ (hw _ (List.mem_of_getElem? (i := 24) rfl))) (mvT hZ (hw _ (List.mem_of_getElem? (i := 23) rfl))) (by decide) (backOf (W := 0) (rm3 l Z a0 hw [] b10 (1 : Int32) b7 (1 : Int32) lb k7 kl [(.long q4), (.long q5)] [(.long q2), (.long (0 : Int64)), (.long (0 : Int64)), (.long (0 : Int64))] T12.heap n0 Z12 Fq11_words_c12 Fq11_labels_c12 V9_b7_c12 Vn12 gn_lb ne_b7_lb ne_b10_lb (by decide) (by decide) (by decide) (by decide) (by decide) (Nat.le_of_ble_eq_true rfl)) hZ (hw _ (List.mem_of_getElem? (i := 25) rfl)) (hw _ (List.mem_of_getElem? (i := 3) rfl)) (by decide) (by decide)) qk13a qk13c (g := (mkF m 78 #[.val (.int p0), .val (.int p1), .val (.long q2), .second, .val (.long q3), .second, .val (.long q4), .second, .val (.long q5), .second, .val (.int v1), .val (.int (0 : Int32)), .val (.int v3), .val (.ref b4), .val (.ref b7), .val (.ref b10), .unset] [(.ref b7), (.int (1 : Int32)), (.ref b10)])) rfl (by rw [hml]; rfl) (Steps.refl _) (argsL := [(.int (1 : Int32)), (.ref b7)]) (rest := []) (lenOf pd1 rfl) rfl (by show 2 * 0 + _ ≤ _; exact Nat.le_of_eq rfl) (hb hby at_78) (fun _ _ => ⟨rfl, rfl, (by decide : 7 + 0 ≤ _), (by decide : 4107 + 0 ≤ _)⟩)
      dsimp only [Pt.U, Pt.locs, Pt.cells, Pt.slots] at X13 l13 y13 z13 st13 hQ13
      subst l13 y13 z13
      obtain ⟨rfl, Nq13, Kq13, Vq13⟩ := hQ13
      have N13 := Fr.app N12 Nq13
      have V6_b4_c13 : Arv Z T13.heap b4 k4 .long (2 : Int32) [(.long q2), (.long q3)] (.long (0 : Int64)) := V6_b4_c12.keep Kq13 (ninS ne_b4_lb nin0)
      have V9_b7_c13 : Arv Z T13.heap b7 k7 .long (2 : Int32) [(.long q4), (.long q5)] (.long (0 : Int64)) := V9_b7_c12.keep Kq13 (ninS ne_b7_lb nin0)
      have Eq11_c13 : Exa Z T13.heap b10 "com/example/mave/mave/engine/StateGraph" := Eq11_c12.keep Kq13
      have Fq11_labels_c13 : Fld Z T13.heap b10 "com/example/mave/mave/engine/StateGraph" "labels" "[J" (.ref lb) := Fq11_labels_c12.keep Kq13 (ninS ne_b10_lb nin0)
      have Fq11_words_c13 : Fld Z T13.heap b10 "com/example/mave/mave/engine/StateGraph" "words" "I" (.int (1 : Int32)) := Fq11_words_c12.keep Kq13 (ninS ne_b10_lb nin0)
      have Z13 : n0 ≤ T13.heap.size := Nat.le_trans Z12 Kq13.1
      have Vn13 : Arv Z T13.heap lb kl .long (1024 : Int32) [(.long q2), (.long q4), (.long (0 : Int64)), (.long (0 : Int64))] (.long (0 : Int64)) := Vq13
      refine own_go (G := T13.setTop (mkF m 81 #[.val (.int p0), .val (.int p1), .val (.long q2), .second, .val (.long q3), .second, .val (.long q4), .second, .val (.long q5), .second, .val (.int v1), .val (.int (0 : Int32)), .val (.int v3), .val (.ref b4), .val (.ref b7), .val (.ref b10), .unset] [])) (fun _ k => st13.trans k) ?_
      refine own_go (G := T13.setTop (mkF m 83 #[.val (.int p0), .val (.int p1), .val (.long q2), .second, .val (.long q3), .second, .val (.long q4), .second, .val (.long q5), .second, .val (.int v1), .val (.int (0 : Int32)), .val (.int v3), .val (.ref b4), .val (.ref b7), .val (.ref b10), .unset] [(.ref b10)])) (fun _ k => XS.aload X13.here hx rfl (hb hby at_81) rfl rfl k) ?_
      refine own_go (G := T13.setTop (mkF m 85 #[.val (.int p0), .val (.int p1), .val (.long q2), .second, .val (.long q3), .second, .val (.long q4), .second, .val (.long q5), .second, .val (.int v1), .val (.int (0 : Int32)), .val (.int v3), .val (.ref b4), .val (.ref b7), .val (.ref b10), .unset] [(.int (0 : Int32)), (.ref b10)])) (fun _ k => XS.iload X13.here hx rfl (hb hby at_83) rfl k) ?_
      refine own_go (G := T13.setTop (mkF m 87 #[.val (.int p0), .val (.int p1), .val (.long q2), .second, .val (.long q3), .second, .val (.long q4), .second, .val (.long q5), .second, .val (.int v1), .val (.int (0 : Int32)), .val (.int v3), .val (.ref b4), .val (.ref b7), .val (.ref b10), .unset] [(.int v3), (.int (0 : Int32)), (.ref b10)])) (fun _ k => XS.iload X13.here hx rfl (hb hby at_85) rfl k) ?_
      obtain ⟨cl, Ar, q_cl, S_cl, N_cl, Ha_cl, G_cl⟩ := id Vn13
      have hj : (((0 : Int32) * (1 : Int32)) + (v3 / (64 : Int32))) = (0 : Int32) := by rw [hbit]; decide
      have hin : ¬ ((((0 : Int32) * (1 : Int32)) + (v3 / (64 : Int32))) < 0 ∨ cl.slots.size ≤ ((((0 : Int32) * (1 : Int32)) + (v3 / (64 : Int32)))).toNatClampNeg) := inb_of S_cl (by rw [hj]; exact ⟨by decide, by decide⟩)
      have hat : cl.slots[((((0 : Int32) * (1 : Int32)) + (v3 / (64 : Int32)))).toNatClampNeg]? = some (.long q2) := Ha_cl.at hin (by rw [hj]; rfl)
      obtain ⟨cq14, kq14, qk14a, qk14b, qk14c⟩ := isOf hZ rfl Eq11_c13
      obtain ⟨_, _, ⟨T14, L14, k14, n14⟩, -, X14, ⟨Lc14, hQ14, l14, y14, z14⟩, st14⟩ := X13.virtualBack hx (y := (⟨"com/example/mave/mave/engine/StateGraph", "holds", "(II)Z"⟩ : MethodName)) (z := (⟨"com/example/mave/mave/engine/StateGraph", "holds", "(II)Z"⟩ : MethodName)) hown (mvT hZ (hw _ (List.mem_of_getElem? (i := 30) rfl))) (mvT hZ (hw _ (List.mem_of_getElem? (i := 31) rfl))) (notFace_of_selects (args := #[]) (mvT hZ (hw _ (List.mem_of_getElem? (i := 33) rfl)))) (mvT hZ (hw _ (List.mem_of_getElem? (i := 33) rfl))) (mvT hZ (hw _ (List.mem_of_getElem? (i := 32) rfl))) (by decide) (backOf (W := 0) (rm4 l Z a0 hw [] b10 (0 : Int32) v3 (1 : Int32) lb cl q2 T13.heap n0 Z13 Fq11_words_c13 Fq11_labels_c13 Ar hin hat) hZ (hw _ (List.mem_of_getElem? (i := 34) rfl)) (hw _ (List.mem_of_getElem? (i := 3) rfl)) (by decide) (by decide)) qk14a qk14c (g := (mkF m 87 #[.val (.int p0), .val (.int p1), .val (.long q2), .second, .val (.long q3), .second, .val (.long q4), .second, .val (.long q5), .second, .val (.int v1), .val (.int (0 : Int32)), .val (.int v3), .val (.ref b4), .val (.ref b7), .val (.ref b10), .unset] [(.int v3), (.int (0 : Int32)), (.ref b10)])) rfl (by rw [hml]; rfl) (Steps.refl _) (argsL := [(.int (0 : Int32)), (.int v3)]) (rest := []) (lenOf pd2 rfl) rfl (by show 2 * 0 + _ ≤ _; exact Nat.le_of_eq rfl) (hb hby at_87) (fun _ _ => ⟨rfl, rfl, (by decide : 7 + 0 ≤ _), (by decide : 4107 + 0 ≤ _)⟩)
      dsimp only [Pt.U, Pt.locs, Pt.cells, Pt.slots] at X14 l14 y14 z14 st14 hQ14
      subst l14 y14 z14
      obtain ⟨rfl, Nq14, e14⟩ := hQ14
      have N14 := Fr.app N13 Nq14
      refine own_go (G := T14.setTop (mkF m 90 #[.val (.int p0), .val (.int p1), .val (.long q2), .second, .val (.long q3), .second, .val (.long q4), .second, .val (.long q5), .second, .val (.int v1), .val (.int (0 : Int32)), .val (.int v3), .val (.ref b4), .val (.ref b7), .val (.ref b10), .unset] [(.int (F4 b10 (0 : Int32) v3 (1 : Int32) lb cl q2))])) (fun _ k => st14.trans k) ?_
      generalize hv15 : (F4 b10 (0 : Int32) v3 (1 : Int32) lb cl q2) = v15
      refine own_go (G := T14.setTop (mkF m 92 #[.val (.int p0), .val (.int p1), .val (.long q2), .second, .val (.long q3), .second, .val (.long q4), .second, .val (.long q5), .second, .val (.int v1), .val (.int (0 : Int32)), .val (.int v3), .val (.ref b4), .val (.ref b7), .val (.ref b10), .val (.int v15)] [])) (fun _ k => XS.istore X14.here hx rfl (hb hby at_90) rfl (l' := #[.val (.int p0), .val (.int p1), .val (.long q2), .second, .val (.long q3), .second, .val (.long q4), .second, .val (.long q5), .second, .val (.int v1), .val (.int (0 : Int32)), .val (.int v3), .val (.ref b4), .val (.ref b7), .val (.ref b10), .val (.int v15)]) rfl k) ?_
      refine own_go (G := T14.setTop (mkF m 94 #[.val (.int p0), .val (.int p1), .val (.long q2), .second, .val (.long q3), .second, .val (.long q4), .second, .val (.long q5), .second, .val (.int v1), .val (.int (0 : Int32)), .val (.int v3), .val (.ref b4), .val (.ref b7), .val (.ref b10), .val (.int v15)] [(.int v15)])) (fun _ k => XS.iload X14.here hx rfl (hb hby at_92) rfl k) ?_
      refine own_go (G := T14.setTop (mkF m 96 #[.val (.int p0), .val (.int p1), .val (.long q2), .second, .val (.long q3), .second, .val (.long q4), .second, .val (.long q5), .second, .val (.int v1), .val (.int (0 : Int32)), .val (.int v3), .val (.ref b4), .val (.ref b7), .val (.ref b10), .val (.int v15)] [(.int (0 : Int32)), (.int v15)])) (fun _ k => XS.iload X14.here hx rfl (hb hby at_94) rfl k) ?_
      refine own_go (G := T14.setTop (mkF m 98 #[.val (.int p0), .val (.int p1), .val (.long q2), .second, .val (.long q3), .second, .val (.long q4), .second, .val (.long q5), .second, .val (.int v1), .val (.int (0 : Int32)), .val (.int v3), .val (.ref b4), .val (.ref b7), .val (.ref b10), .val (.int v15)] [(.int v3), (.int (0 : Int32)), (.int v15)])) (fun _ k => XS.iload X14.here hx rfl (hb hby at_96) rfl k) ?_
      refine own_go (G := T14.setTop (mkF m 99 #[.val (.int p0), .val (.int p1), .val (.long q2), .second, .val (.long q3), .second, .val (.long q4), .second, .val (.long q5), .second, .val (.int v1), .val (.int (0 : Int32)), .val (.int v3), .val (.ref b4), .val (.ref b7), .val (.ref b10), .val (.int v15)] [(.long q2), (.int v3), (.int (0 : Int32)), (.int v15)])) (fun _ k => XS.lloadN X14.here hx rfl (hb hby at_98) rfl k) ?_
      refine own_go (G := T14.setTop (mkF m 101 #[.val (.int p0), .val (.int p1), .val (.long q2), .second, .val (.long q3), .second, .val (.long q4), .second, .val (.long q5), .second, .val (.int v1), .val (.int (0 : Int32)), .val (.int v3), .val (.ref b4), .val (.ref b7), .val (.ref b10), .val (.int v15)] [(.long q3), (.long q2), (.int v3), (.int (0 : Int32)), (.int v15)])) (fun _ k => XS.lload X14.here hx rfl (hb hby at_99) rfl k) ?_
      refine own_go (G := T14.setTop (mkF m 103 #[.val (.int p0), .val (.int p1), .val (.long q2), .second, .val (.long q3), .second, .val (.long q4), .second, .val (.long q5), .second, .val (.int v1), .val (.int (0 : Int32)), .val (.int v3), .val (.ref b4), .val (.ref b7), .val (.ref b10), .val (.int v15)] [(.long q4), (.long q3), (.long q2), (.int v3), (.int (0 : Int32)), (.int v15)])) (fun _ k => XS.lload X14.here hx rfl (hb hby at_101) rfl k) ?_
      refine own_go (G := T14.setTop (mkF m 105 #[.val (.int p0), .val (.int p1), .val (.long q2), .second, .val (.long q3), .second, .val (.long q4), .second, .val (.long q5), .second, .val (.int v1), .val (.int (0 : Int32)), .val (.int v3), .val (.ref b4), .val (.ref b7), .val (.ref b10), .val (.int v15)] [(.long q5), (.long q4), (.long q3), (.long q2), (.int v3), (.int (0 : Int32)), (.int v15)])) (fun _ k => XS.lload X14.here hx rfl (hb hby at_103) rfl k) ?_
      obtain ⟨_, _, ⟨T16, L16, k16, n16⟩, -, X16, ⟨Lc16, hQ16, l16, y16, z16⟩, st16⟩ := Jvm.LawKit.callS X14 hx (y := (⟨"com/example/mave/mave/engine/StateGraphHoldsPinLaw", "expected", "(IIJJJJ)Z"⟩ : MethodName)) hown (mvT hZ (hw _ (List.mem_of_getElem? (i := 35) rfl))) (mvT hZ (hw _ (List.mem_of_getElem? (i := 36) rfl))) (mvT hZ (hw _ (List.mem_of_getElem? (i := 37) rfl))) (mvT hZ (hw _ (List.mem_of_getElem? (i := 38) rfl))) (by decide) (backOf (W := 1) (rm5 l Z a0 hw [] (0 : Int32) v3 q2 q3 q4 q5 T13.heap n0 Z13) hZ (hw _ (List.mem_of_getElem? (i := 38) rfl)) (hw _ (List.mem_of_getElem? (i := 37) rfl)) (by decide) (by decide)) (g := (mkF m 105 #[.val (.int p0), .val (.int p1), .val (.long q2), .second, .val (.long q3), .second, .val (.long q4), .second, .val (.long q5), .second, .val (.int v1), .val (.int (0 : Int32)), .val (.int v3), .val (.ref b4), .val (.ref b7), .val (.ref b10), .val (.int v15)] [(.long q5), (.long q4), (.long q3), (.long q2), (.int v3), (.int (0 : Int32)), (.int v15)])) rfl (by rw [hml]; rfl) (argsL := [(.int (0 : Int32)), (.int v3), (.long q2), (.long q3), (.long q4), (.long q5)]) (rest := [(.int v15)]) (lenOf pd3 rfl) rfl (by show 2 * 0 + _ ≤ _; exact Nat.le_of_eq rfl) (hb hby at_105) (fun _ _ => ⟨rfl, e14, (by decide : 7 + 0 ≤ _), (by decide : 4107 + 0 ≤ _)⟩)
      dsimp only [Pt.U, Pt.locs, Pt.cells, Pt.slots] at X16 l16 y16 z16 st16 hQ16
      subst l16 y16 z16
      obtain ⟨rfl, Nq16, e16⟩ := hQ16
      have N16 := Fr.app N14 Nq16
      refine own_go (G := T16.setTop (mkF m 108 #[.val (.int p0), .val (.int p1), .val (.long q2), .second, .val (.long q3), .second, .val (.long q4), .second, .val (.long q5), .second, .val (.int v1), .val (.int (0 : Int32)), .val (.int v3), .val (.ref b4), .val (.ref b7), .val (.ref b10), .val (.int v15)] [(.int (F5 (0 : Int32) v3 q2 q3 q4 q5)), (.int v15)])) (st16) ?_
      refine own_go (G := T16.setTop (mkF m 111 #[.val (.int p0), .val (.int p1), .val (.long q2), .second, .val (.long q3), .second, .val (.long q4), .second, .val (.long q5), .second, .val (.int v1), .val (.int (0 : Int32)), .val (.int v3), .val (.ref b4), .val (.ref b7), .val (.ref b10), .val (.int v15)] [])) (fun _ k => XS.icmpNo X16.here hx rfl (hb hby at_108) rfl (teq (own_fin00 hbit hv15 : v15 = (F5 (0 : Int32) v3 q2 q3 q4 q5))).2 k) ?_
      refine own_go (G := T16.setTop (mkF m 112 #[.val (.int p0), .val (.int p1), .val (.long q2), .second, .val (.long q3), .second, .val (.long q4), .second, .val (.long q5), .second, .val (.int v1), .val (.int (0 : Int32)), .val (.int v3), .val (.ref b4), .val (.ref b7), .val (.ref b10), .val (.int v15)] [(.int (1 : Int32))])) (fun _ k => XS.iconst X16.here hx rfl (hb hby at_111) k) ?_
      refine own_go (G := T16.setTop (mkF m 116 #[.val (.int p0), .val (.int p1), .val (.long q2), .second, .val (.long q3), .second, .val (.long q4), .second, .val (.long q5), .second, .val (.int v1), .val (.int (0 : Int32)), .val (.int v3), .val (.ref b4), .val (.ref b7), .val (.ref b10), .val (.int v15)] [(.int (1 : Int32))])) (fun _ k => XS.goto X16.here hx rfl (pc0 := 112) (pc' := 116) rfl (hb hby at_112) (by decide) (by decide) k) ?_
      exact own_ret1 X16 hx Bd.returns (hb hby at_116) Bd.notSynchronized (by decide) (by decide) ⟨rfl, N16⟩
    · subst hsv
      refine own_go (G := T11.setTop (mkF m 67 #[.val (.int p0), .val (.int p1), .val (.long q2), .second, .val (.long q3), .second, .val (.long q4), .second, .val (.long q5), .second, .val (.int v1), .val (.int (1 : Int32)), .val (.int v3), .val (.ref b4), .val (.ref b7), .val (.ref b10), .unset] [(.ref b10)])) (fun _ k => XS.aload X11.here hx rfl (hb hby at_65) rfl rfl k) ?_
      refine own_go (G := T11.setTop (mkF m 68 #[.val (.int p0), .val (.int p1), .val (.long q2), .second, .val (.long q3), .second, .val (.long q4), .second, .val (.long q5), .second, .val (.int v1), .val (.int (1 : Int32)), .val (.int v3), .val (.ref b4), .val (.ref b7), .val (.ref b10), .unset] [(.int (0 : Int32)), (.ref b10)])) (fun _ k => XS.iconst X11.here hx rfl (hb hby at_67) k) ?_
      refine own_go (G := T11.setTop (mkF m 70 #[.val (.int p0), .val (.int p1), .val (.long q2), .second, .val (.long q3), .second, .val (.long q4), .second, .val (.long q5), .second, .val (.int v1), .val (.int (1 : Int32)), .val (.int v3), .val (.ref b4), .val (.ref b7), .val (.ref b10), .unset] [(.ref b4), (.int (0 : Int32)), (.ref b10)])) (fun _ k => XS.aload X11.here hx rfl (hb hby at_68) rfl rfl k) ?_
      obtain ⟨cq17, kq17, qk17a, qk17b, qk17c⟩ := isOf hZ rfl Eq11
      obtain ⟨_, _, ⟨T17, L17, k17, n17⟩, -, X17, ⟨Lc17, hQ17, l17, y17, z17⟩, st17⟩ := X11.virtualBack hx (y := (⟨"com/example/mave/mave/engine/StateGraph", "label", "(I[J)V"⟩ : MethodName)) (z := (⟨"com/example/mave/mave/engine/StateGraph", "label", "(I[J)V"⟩ : MethodName)) hown (mvT hZ (hw _ (List.mem_of_getElem? (i := 21) rfl))) (mvT hZ (hw _ (List.mem_of_getElem? (i := 22) rfl))) (notFace_of_selects (args := #[]) (mvT hZ (hw _ (List.mem_of_getElem? (i := 24) rfl)))) (mvT hZ (hw _ (List.mem_of_getElem? (i := 24) rfl))) (mvT hZ (hw _ (List.mem_of_getElem? (i := 23) rfl))) (by decide) (backOf (W := 0) (rm3 l Z a0 hw [] b10 (0 : Int32) b4 (1 : Int32) lb k4 kl [(.long q2), (.long q3)] [(.long (0 : Int64)), (.long (0 : Int64)), (.long (0 : Int64)), (.long (0 : Int64))] T11.heap n0 Z11 Fq11_words Fq11_labels V6_b4_c11 Vl4 gn_lb ne_b4_lb ne_b10_lb (by decide) (by decide) (by decide) (by decide) (by decide) (Nat.le_of_ble_eq_true rfl)) hZ (hw _ (List.mem_of_getElem? (i := 25) rfl)) (hw _ (List.mem_of_getElem? (i := 3) rfl)) (by decide) (by decide)) qk17a qk17c (g := (mkF m 70 #[.val (.int p0), .val (.int p1), .val (.long q2), .second, .val (.long q3), .second, .val (.long q4), .second, .val (.long q5), .second, .val (.int v1), .val (.int (1 : Int32)), .val (.int v3), .val (.ref b4), .val (.ref b7), .val (.ref b10), .unset] [(.ref b4), (.int (0 : Int32)), (.ref b10)])) rfl (by rw [hml]; rfl) (Steps.refl _) (argsL := [(.int (0 : Int32)), (.ref b4)]) (rest := []) (lenOf pd1 rfl) rfl (by show 2 * 0 + _ ≤ _; exact Nat.le_of_eq rfl) (hb hby at_70) (fun _ _ => ⟨rfl, rfl, (by decide : 7 + 0 ≤ _), (by decide : 4107 + 0 ≤ _)⟩)
      dsimp only [Pt.U, Pt.locs, Pt.cells, Pt.slots] at X17 l17 y17 z17 st17 hQ17
      subst l17 y17 z17
      obtain ⟨rfl, Nq17, Kq17, Vq17⟩ := hQ17
      have N17 := Fr.app N11 Nq17
      have V6_b4_c17 : Arv Z T17.heap b4 k4 .long (2 : Int32) [(.long q2), (.long q3)] (.long (0 : Int64)) := V6_b4_c11.keep Kq17 (ninS ne_b4_lb nin0)
      have V9_b7_c17 : Arv Z T17.heap b7 k7 .long (2 : Int32) [(.long q4), (.long q5)] (.long (0 : Int64)) := V9_b7_c11.keep Kq17 (ninS ne_b7_lb nin0)
      have Eq11_c17 : Exa Z T17.heap b10 "com/example/mave/mave/engine/StateGraph" := Eq11.keep Kq17
      have Fq11_labels_c17 : Fld Z T17.heap b10 "com/example/mave/mave/engine/StateGraph" "labels" "[J" (.ref lb) := Fq11_labels.keep Kq17 (ninS ne_b10_lb nin0)
      have Fq11_words_c17 : Fld Z T17.heap b10 "com/example/mave/mave/engine/StateGraph" "words" "I" (.int (1 : Int32)) := Fq11_words.keep Kq17 (ninS ne_b10_lb nin0)
      have Z17 : n0 ≤ T17.heap.size := Nat.le_trans Z11 Kq17.1
      have Vn17 : Arv Z T17.heap lb kl .long (1024 : Int32) [(.long q2), (.long (0 : Int64)), (.long (0 : Int64)), (.long (0 : Int64))] (.long (0 : Int64)) := Vq17
      refine own_go (G := T17.setTop (mkF m 73 #[.val (.int p0), .val (.int p1), .val (.long q2), .second, .val (.long q3), .second, .val (.long q4), .second, .val (.long q5), .second, .val (.int v1), .val (.int (1 : Int32)), .val (.int v3), .val (.ref b4), .val (.ref b7), .val (.ref b10), .unset] [])) (fun _ k => st17.trans k) ?_
      refine own_go (G := T17.setTop (mkF m 75 #[.val (.int p0), .val (.int p1), .val (.long q2), .second, .val (.long q3), .second, .val (.long q4), .second, .val (.long q5), .second, .val (.int v1), .val (.int (1 : Int32)), .val (.int v3), .val (.ref b4), .val (.ref b7), .val (.ref b10), .unset] [(.ref b10)])) (fun _ k => XS.aload X17.here hx rfl (hb hby at_73) rfl rfl k) ?_
      refine own_go (G := T17.setTop (mkF m 76 #[.val (.int p0), .val (.int p1), .val (.long q2), .second, .val (.long q3), .second, .val (.long q4), .second, .val (.long q5), .second, .val (.int v1), .val (.int (1 : Int32)), .val (.int v3), .val (.ref b4), .val (.ref b7), .val (.ref b10), .unset] [(.int (1 : Int32)), (.ref b10)])) (fun _ k => XS.iconst X17.here hx rfl (hb hby at_75) k) ?_
      refine own_go (G := T17.setTop (mkF m 78 #[.val (.int p0), .val (.int p1), .val (.long q2), .second, .val (.long q3), .second, .val (.long q4), .second, .val (.long q5), .second, .val (.int v1), .val (.int (1 : Int32)), .val (.int v3), .val (.ref b4), .val (.ref b7), .val (.ref b10), .unset] [(.ref b7), (.int (1 : Int32)), (.ref b10)])) (fun _ k => XS.aload X17.here hx rfl (hb hby at_76) rfl rfl k) ?_
      obtain ⟨cq18, kq18, qk18a, qk18b, qk18c⟩ := isOf hZ rfl Eq11_c17
      obtain ⟨_, _, ⟨T18, L18, k18, n18⟩, -, X18, ⟨Lc18, hQ18, l18, y18, z18⟩, st18⟩ := X17.virtualBack hx (y := (⟨"com/example/mave/mave/engine/StateGraph", "label", "(I[J)V"⟩ : MethodName)) (z := (⟨"com/example/mave/mave/engine/StateGraph", "label", "(I[J)V"⟩ : MethodName)) hown (mvT hZ (hw _ (List.mem_of_getElem? (i := 21) rfl))) (mvT hZ (hw _ (List.mem_of_getElem? (i := 22) rfl))) (notFace_of_selects (args := #[]) (mvT hZ (hw _ (List.mem_of_getElem? (i := 24) rfl)))) (mvT hZ (hw _ (List.mem_of_getElem? (i := 24) rfl))) (mvT hZ (hw _ (List.mem_of_getElem? (i := 23) rfl))) (by decide) (backOf (W := 0) (rm3 l Z a0 hw [] b10 (1 : Int32) b7 (1 : Int32) lb k7 kl [(.long q4), (.long q5)] [(.long q2), (.long (0 : Int64)), (.long (0 : Int64)), (.long (0 : Int64))] T17.heap n0 Z17 Fq11_words_c17 Fq11_labels_c17 V9_b7_c17 Vn17 gn_lb ne_b7_lb ne_b10_lb (by decide) (by decide) (by decide) (by decide) (by decide) (Nat.le_of_ble_eq_true rfl)) hZ (hw _ (List.mem_of_getElem? (i := 25) rfl)) (hw _ (List.mem_of_getElem? (i := 3) rfl)) (by decide) (by decide)) qk18a qk18c (g := (mkF m 78 #[.val (.int p0), .val (.int p1), .val (.long q2), .second, .val (.long q3), .second, .val (.long q4), .second, .val (.long q5), .second, .val (.int v1), .val (.int (1 : Int32)), .val (.int v3), .val (.ref b4), .val (.ref b7), .val (.ref b10), .unset] [(.ref b7), (.int (1 : Int32)), (.ref b10)])) rfl (by rw [hml]; rfl) (Steps.refl _) (argsL := [(.int (1 : Int32)), (.ref b7)]) (rest := []) (lenOf pd1 rfl) rfl (by show 2 * 0 + _ ≤ _; exact Nat.le_of_eq rfl) (hb hby at_78) (fun _ _ => ⟨rfl, rfl, (by decide : 7 + 0 ≤ _), (by decide : 4107 + 0 ≤ _)⟩)
      dsimp only [Pt.U, Pt.locs, Pt.cells, Pt.slots] at X18 l18 y18 z18 st18 hQ18
      subst l18 y18 z18
      obtain ⟨rfl, Nq18, Kq18, Vq18⟩ := hQ18
      have N18 := Fr.app N17 Nq18
      have V6_b4_c18 : Arv Z T18.heap b4 k4 .long (2 : Int32) [(.long q2), (.long q3)] (.long (0 : Int64)) := V6_b4_c17.keep Kq18 (ninS ne_b4_lb nin0)
      have V9_b7_c18 : Arv Z T18.heap b7 k7 .long (2 : Int32) [(.long q4), (.long q5)] (.long (0 : Int64)) := V9_b7_c17.keep Kq18 (ninS ne_b7_lb nin0)
      have Eq11_c18 : Exa Z T18.heap b10 "com/example/mave/mave/engine/StateGraph" := Eq11_c17.keep Kq18
      have Fq11_labels_c18 : Fld Z T18.heap b10 "com/example/mave/mave/engine/StateGraph" "labels" "[J" (.ref lb) := Fq11_labels_c17.keep Kq18 (ninS ne_b10_lb nin0)
      have Fq11_words_c18 : Fld Z T18.heap b10 "com/example/mave/mave/engine/StateGraph" "words" "I" (.int (1 : Int32)) := Fq11_words_c17.keep Kq18 (ninS ne_b10_lb nin0)
      have Z18 : n0 ≤ T18.heap.size := Nat.le_trans Z17 Kq18.1
      have Vn18 : Arv Z T18.heap lb kl .long (1024 : Int32) [(.long q2), (.long q4), (.long (0 : Int64)), (.long (0 : Int64))] (.long (0 : Int64)) := Vq18
      refine own_go (G := T18.setTop (mkF m 81 #[.val (.int p0), .val (.int p1), .val (.long q2), .second, .val (.long q3), .second, .val (.long q4), .second, .val (.long q5), .second, .val (.int v1), .val (.int (1 : Int32)), .val (.int v3), .val (.ref b4), .val (.ref b7), .val (.ref b10), .unset] [])) (fun _ k => st18.trans k) ?_
      refine own_go (G := T18.setTop (mkF m 83 #[.val (.int p0), .val (.int p1), .val (.long q2), .second, .val (.long q3), .second, .val (.long q4), .second, .val (.long q5), .second, .val (.int v1), .val (.int (1 : Int32)), .val (.int v3), .val (.ref b4), .val (.ref b7), .val (.ref b10), .unset] [(.ref b10)])) (fun _ k => XS.aload X18.here hx rfl (hb hby at_81) rfl rfl k) ?_
      refine own_go (G := T18.setTop (mkF m 85 #[.val (.int p0), .val (.int p1), .val (.long q2), .second, .val (.long q3), .second, .val (.long q4), .second, .val (.long q5), .second, .val (.int v1), .val (.int (1 : Int32)), .val (.int v3), .val (.ref b4), .val (.ref b7), .val (.ref b10), .unset] [(.int (1 : Int32)), (.ref b10)])) (fun _ k => XS.iload X18.here hx rfl (hb hby at_83) rfl k) ?_
      refine own_go (G := T18.setTop (mkF m 87 #[.val (.int p0), .val (.int p1), .val (.long q2), .second, .val (.long q3), .second, .val (.long q4), .second, .val (.long q5), .second, .val (.int v1), .val (.int (1 : Int32)), .val (.int v3), .val (.ref b4), .val (.ref b7), .val (.ref b10), .unset] [(.int v3), (.int (1 : Int32)), (.ref b10)])) (fun _ k => XS.iload X18.here hx rfl (hb hby at_85) rfl k) ?_
      obtain ⟨cl, Ar, q_cl, S_cl, N_cl, Ha_cl, G_cl⟩ := id Vn18
      have hj : (((1 : Int32) * (1 : Int32)) + (v3 / (64 : Int32))) = (1 : Int32) := by rw [hbit]; decide
      have hin : ¬ ((((1 : Int32) * (1 : Int32)) + (v3 / (64 : Int32))) < 0 ∨ cl.slots.size ≤ ((((1 : Int32) * (1 : Int32)) + (v3 / (64 : Int32)))).toNatClampNeg) := inb_of S_cl (by rw [hj]; exact ⟨by decide, by decide⟩)
      have hat : cl.slots[((((1 : Int32) * (1 : Int32)) + (v3 / (64 : Int32)))).toNatClampNeg]? = some (.long q4) := Ha_cl.at hin (by rw [hj]; rfl)
      obtain ⟨cq19, kq19, qk19a, qk19b, qk19c⟩ := isOf hZ rfl Eq11_c18
      obtain ⟨_, _, ⟨T19, L19, k19, n19⟩, -, X19, ⟨Lc19, hQ19, l19, y19, z19⟩, st19⟩ := X18.virtualBack hx (y := (⟨"com/example/mave/mave/engine/StateGraph", "holds", "(II)Z"⟩ : MethodName)) (z := (⟨"com/example/mave/mave/engine/StateGraph", "holds", "(II)Z"⟩ : MethodName)) hown (mvT hZ (hw _ (List.mem_of_getElem? (i := 30) rfl))) (mvT hZ (hw _ (List.mem_of_getElem? (i := 31) rfl))) (notFace_of_selects (args := #[]) (mvT hZ (hw _ (List.mem_of_getElem? (i := 33) rfl)))) (mvT hZ (hw _ (List.mem_of_getElem? (i := 33) rfl))) (mvT hZ (hw _ (List.mem_of_getElem? (i := 32) rfl))) (by decide) (backOf (W := 0) (rm4 l Z a0 hw [] b10 (1 : Int32) v3 (1 : Int32) lb cl q4 T18.heap n0 Z18 Fq11_words_c18 Fq11_labels_c18 Ar hin hat) hZ (hw _ (List.mem_of_getElem? (i := 34) rfl)) (hw _ (List.mem_of_getElem? (i := 3) rfl)) (by decide) (by decide)) qk19a qk19c (g := (mkF m 87 #[.val (.int p0), .val (.int p1), .val (.long q2), .second, .val (.long q3), .second, .val (.long q4), .second, .val (.long q5), .second, .val (.int v1), .val (.int (1 : Int32)), .val (.int v3), .val (.ref b4), .val (.ref b7), .val (.ref b10), .unset] [(.int v3), (.int (1 : Int32)), (.ref b10)])) rfl (by rw [hml]; rfl) (Steps.refl _) (argsL := [(.int (1 : Int32)), (.int v3)]) (rest := []) (lenOf pd2 rfl) rfl (by show 2 * 0 + _ ≤ _; exact Nat.le_of_eq rfl) (hb hby at_87) (fun _ _ => ⟨rfl, rfl, (by decide : 7 + 0 ≤ _), (by decide : 4107 + 0 ≤ _)⟩)
      dsimp only [Pt.U, Pt.locs, Pt.cells, Pt.slots] at X19 l19 y19 z19 st19 hQ19
      subst l19 y19 z19
      obtain ⟨rfl, Nq19, e19⟩ := hQ19
      have N19 := Fr.app N18 Nq19
      refine own_go (G := T19.setTop (mkF m 90 #[.val (.int p0), .val (.int p1), .val (.long q2), .second, .val (.long q3), .second, .val (.long q4), .second, .val (.long q5), .second, .val (.int v1), .val (.int (1 : Int32)), .val (.int v3), .val (.ref b4), .val (.ref b7), .val (.ref b10), .unset] [(.int (F4 b10 (1 : Int32) v3 (1 : Int32) lb cl q4))])) (fun _ k => st19.trans k) ?_
      generalize hv20 : (F4 b10 (1 : Int32) v3 (1 : Int32) lb cl q4) = v20
      refine own_go (G := T19.setTop (mkF m 92 #[.val (.int p0), .val (.int p1), .val (.long q2), .second, .val (.long q3), .second, .val (.long q4), .second, .val (.long q5), .second, .val (.int v1), .val (.int (1 : Int32)), .val (.int v3), .val (.ref b4), .val (.ref b7), .val (.ref b10), .val (.int v20)] [])) (fun _ k => XS.istore X19.here hx rfl (hb hby at_90) rfl (l' := #[.val (.int p0), .val (.int p1), .val (.long q2), .second, .val (.long q3), .second, .val (.long q4), .second, .val (.long q5), .second, .val (.int v1), .val (.int (1 : Int32)), .val (.int v3), .val (.ref b4), .val (.ref b7), .val (.ref b10), .val (.int v20)]) rfl k) ?_
      refine own_go (G := T19.setTop (mkF m 94 #[.val (.int p0), .val (.int p1), .val (.long q2), .second, .val (.long q3), .second, .val (.long q4), .second, .val (.long q5), .second, .val (.int v1), .val (.int (1 : Int32)), .val (.int v3), .val (.ref b4), .val (.ref b7), .val (.ref b10), .val (.int v20)] [(.int v20)])) (fun _ k => XS.iload X19.here hx rfl (hb hby at_92) rfl k) ?_
      refine own_go (G := T19.setTop (mkF m 96 #[.val (.int p0), .val (.int p1), .val (.long q2), .second, .val (.long q3), .second, .val (.long q4), .second, .val (.long q5), .second, .val (.int v1), .val (.int (1 : Int32)), .val (.int v3), .val (.ref b4), .val (.ref b7), .val (.ref b10), .val (.int v20)] [(.int (1 : Int32)), (.int v20)])) (fun _ k => XS.iload X19.here hx rfl (hb hby at_94) rfl k) ?_
      refine own_go (G := T19.setTop (mkF m 98 #[.val (.int p0), .val (.int p1), .val (.long q2), .second, .val (.long q3), .second, .val (.long q4), .second, .val (.long q5), .second, .val (.int v1), .val (.int (1 : Int32)), .val (.int v3), .val (.ref b4), .val (.ref b7), .val (.ref b10), .val (.int v20)] [(.int v3), (.int (1 : Int32)), (.int v20)])) (fun _ k => XS.iload X19.here hx rfl (hb hby at_96) rfl k) ?_
      refine own_go (G := T19.setTop (mkF m 99 #[.val (.int p0), .val (.int p1), .val (.long q2), .second, .val (.long q3), .second, .val (.long q4), .second, .val (.long q5), .second, .val (.int v1), .val (.int (1 : Int32)), .val (.int v3), .val (.ref b4), .val (.ref b7), .val (.ref b10), .val (.int v20)] [(.long q2), (.int v3), (.int (1 : Int32)), (.int v20)])) (fun _ k => XS.lloadN X19.here hx rfl (hb hby at_98) rfl k) ?_
      refine own_go (G := T19.setTop (mkF m 101 #[.val (.int p0), .val (.int p1), .val (.long q2), .second, .val (.long q3), .second, .val (.long q4), .second, .val (.long q5), .second, .val (.int v1), .val (.int (1 : Int32)), .val (.int v3), .val (.ref b4), .val (.ref b7), .val (.ref b10), .val (.int v20)] [(.long q3), (.long q2), (.int v3), (.int (1 : Int32)), (.int v20)])) (fun _ k => XS.lload X19.here hx rfl (hb hby at_99) rfl k) ?_
      refine own_go (G := T19.setTop (mkF m 103 #[.val (.int p0), .val (.int p1), .val (.long q2), .second, .val (.long q3), .second, .val (.long q4), .second, .val (.long q5), .second, .val (.int v1), .val (.int (1 : Int32)), .val (.int v3), .val (.ref b4), .val (.ref b7), .val (.ref b10), .val (.int v20)] [(.long q4), (.long q3), (.long q2), (.int v3), (.int (1 : Int32)), (.int v20)])) (fun _ k => XS.lload X19.here hx rfl (hb hby at_101) rfl k) ?_
      refine own_go (G := T19.setTop (mkF m 105 #[.val (.int p0), .val (.int p1), .val (.long q2), .second, .val (.long q3), .second, .val (.long q4), .second, .val (.long q5), .second, .val (.int v1), .val (.int (1 : Int32)), .val (.int v3), .val (.ref b4), .val (.ref b7), .val (.ref b10), .val (.int v20)] [(.long q5), (.long q4), (.long q3), (.long q2), (.int v3), (.int (1 : Int32)), (.int v20)])) (fun _ k => XS.lload X19.here hx rfl (hb hby at_103) rfl k) ?_
      obtain ⟨_, _, ⟨T21, L21, k21, n21⟩, -, X21, ⟨Lc21, hQ21, l21, y21, z21⟩, st21⟩ := Jvm.LawKit.callS X19 hx (y := (⟨"com/example/mave/mave/engine/StateGraphHoldsPinLaw", "expected", "(IIJJJJ)Z"⟩ : MethodName)) hown (mvT hZ (hw _ (List.mem_of_getElem? (i := 35) rfl))) (mvT hZ (hw _ (List.mem_of_getElem? (i := 36) rfl))) (mvT hZ (hw _ (List.mem_of_getElem? (i := 37) rfl))) (mvT hZ (hw _ (List.mem_of_getElem? (i := 38) rfl))) (by decide) (backOf (W := 1) (rm5 l Z a0 hw [] (1 : Int32) v3 q2 q3 q4 q5 T18.heap n0 Z18) hZ (hw _ (List.mem_of_getElem? (i := 38) rfl)) (hw _ (List.mem_of_getElem? (i := 37) rfl)) (by decide) (by decide)) (g := (mkF m 105 #[.val (.int p0), .val (.int p1), .val (.long q2), .second, .val (.long q3), .second, .val (.long q4), .second, .val (.long q5), .second, .val (.int v1), .val (.int (1 : Int32)), .val (.int v3), .val (.ref b4), .val (.ref b7), .val (.ref b10), .val (.int v20)] [(.long q5), (.long q4), (.long q3), (.long q2), (.int v3), (.int (1 : Int32)), (.int v20)])) rfl (by rw [hml]; rfl) (argsL := [(.int (1 : Int32)), (.int v3), (.long q2), (.long q3), (.long q4), (.long q5)]) (rest := [(.int v20)]) (lenOf pd3 rfl) rfl (by show 2 * 0 + _ ≤ _; exact Nat.le_of_eq rfl) (hb hby at_105) (fun _ _ => ⟨rfl, e19, (by decide : 7 + 0 ≤ _), (by decide : 4107 + 0 ≤ _)⟩)
      dsimp only [Pt.U, Pt.locs, Pt.cells, Pt.slots] at X21 l21 y21 z21 st21 hQ21
      subst l21 y21 z21
      obtain ⟨rfl, Nq21, e21⟩ := hQ21
      have N21 := Fr.app N19 Nq21
      refine own_go (G := T21.setTop (mkF m 108 #[.val (.int p0), .val (.int p1), .val (.long q2), .second, .val (.long q3), .second, .val (.long q4), .second, .val (.long q5), .second, .val (.int v1), .val (.int (1 : Int32)), .val (.int v3), .val (.ref b4), .val (.ref b7), .val (.ref b10), .val (.int v20)] [(.int (F5 (1 : Int32) v3 q2 q3 q4 q5)), (.int v20)])) (st21) ?_
      refine own_go (G := T21.setTop (mkF m 111 #[.val (.int p0), .val (.int p1), .val (.long q2), .second, .val (.long q3), .second, .val (.long q4), .second, .val (.long q5), .second, .val (.int v1), .val (.int (1 : Int32)), .val (.int v3), .val (.ref b4), .val (.ref b7), .val (.ref b10), .val (.int v20)] [])) (fun _ k => XS.icmpNo X21.here hx rfl (hb hby at_108) rfl (teq (own_fin01 hbit hv20 : v20 = (F5 (1 : Int32) v3 q2 q3 q4 q5))).2 k) ?_
      refine own_go (G := T21.setTop (mkF m 112 #[.val (.int p0), .val (.int p1), .val (.long q2), .second, .val (.long q3), .second, .val (.long q4), .second, .val (.long q5), .second, .val (.int v1), .val (.int (1 : Int32)), .val (.int v3), .val (.ref b4), .val (.ref b7), .val (.ref b10), .val (.int v20)] [(.int (1 : Int32))])) (fun _ k => XS.iconst X21.here hx rfl (hb hby at_111) k) ?_
      refine own_go (G := T21.setTop (mkF m 116 #[.val (.int p0), .val (.int p1), .val (.long q2), .second, .val (.long q3), .second, .val (.long q4), .second, .val (.long q5), .second, .val (.int v1), .val (.int (1 : Int32)), .val (.int v3), .val (.ref b4), .val (.ref b7), .val (.ref b10), .val (.int v20)] [(.int (1 : Int32))])) (fun _ k => XS.goto X21.here hx rfl (pc0 := 112) (pc' := 116) rfl (hb hby at_112) (by decide) (by decide) k) ?_
      exact own_ret1 X21 hx Bd.returns (hb hby at_116) Bd.notSynchronized (by decide) (by decide) ⟨rfl, N21⟩
  · rw [hww] at Fq11_words
    rcases own_bit hv2 with hsv | hsv
    · subst hsv
      refine own_go (G := T11.setTop (mkF m 67 #[.val (.int p0), .val (.int p1), .val (.long q2), .second, .val (.long q3), .second, .val (.long q4), .second, .val (.long q5), .second, .val (.int v1), .val (.int (0 : Int32)), .val (.int v3), .val (.ref b4), .val (.ref b7), .val (.ref b10), .unset] [(.ref b10)])) (fun _ k => XS.aload X11.here hx rfl (hb hby at_65) rfl rfl k) ?_
      refine own_go (G := T11.setTop (mkF m 68 #[.val (.int p0), .val (.int p1), .val (.long q2), .second, .val (.long q3), .second, .val (.long q4), .second, .val (.long q5), .second, .val (.int v1), .val (.int (0 : Int32)), .val (.int v3), .val (.ref b4), .val (.ref b7), .val (.ref b10), .unset] [(.int (0 : Int32)), (.ref b10)])) (fun _ k => XS.iconst X11.here hx rfl (hb hby at_67) k) ?_
      refine own_go (G := T11.setTop (mkF m 70 #[.val (.int p0), .val (.int p1), .val (.long q2), .second, .val (.long q3), .second, .val (.long q4), .second, .val (.long q5), .second, .val (.int v1), .val (.int (0 : Int32)), .val (.int v3), .val (.ref b4), .val (.ref b7), .val (.ref b10), .unset] [(.ref b4), (.int (0 : Int32)), (.ref b10)])) (fun _ k => XS.aload X11.here hx rfl (hb hby at_68) rfl rfl k) ?_
      obtain ⟨cq22, kq22, qk22a, qk22b, qk22c⟩ := isOf hZ rfl Eq11
      obtain ⟨_, _, ⟨T22, L22, k22, n22⟩, -, X22, ⟨Lc22, hQ22, l22, y22, z22⟩, st22⟩ := X11.virtualBack hx (y := (⟨"com/example/mave/mave/engine/StateGraph", "label", "(I[J)V"⟩ : MethodName)) (z := (⟨"com/example/mave/mave/engine/StateGraph", "label", "(I[J)V"⟩ : MethodName)) hown (mvT hZ (hw _ (List.mem_of_getElem? (i := 21) rfl))) (mvT hZ (hw _ (List.mem_of_getElem? (i := 22) rfl))) (notFace_of_selects (args := #[]) (mvT hZ (hw _ (List.mem_of_getElem? (i := 24) rfl)))) (mvT hZ (hw _ (List.mem_of_getElem? (i := 24) rfl))) (mvT hZ (hw _ (List.mem_of_getElem? (i := 23) rfl))) (by decide) (backOf (W := 0) (rm3 l Z a0 hw [] b10 (0 : Int32) b4 (2 : Int32) lb k4 kl [(.long q2), (.long q3)] [(.long (0 : Int64)), (.long (0 : Int64)), (.long (0 : Int64)), (.long (0 : Int64))] T11.heap n0 Z11 Fq11_words Fq11_labels V6_b4_c11 Vl4 gn_lb ne_b4_lb ne_b10_lb (by decide) (by decide) (by decide) (by decide) (by decide) (Nat.le_of_ble_eq_true rfl)) hZ (hw _ (List.mem_of_getElem? (i := 25) rfl)) (hw _ (List.mem_of_getElem? (i := 3) rfl)) (by decide) (by decide)) qk22a qk22c (g := (mkF m 70 #[.val (.int p0), .val (.int p1), .val (.long q2), .second, .val (.long q3), .second, .val (.long q4), .second, .val (.long q5), .second, .val (.int v1), .val (.int (0 : Int32)), .val (.int v3), .val (.ref b4), .val (.ref b7), .val (.ref b10), .unset] [(.ref b4), (.int (0 : Int32)), (.ref b10)])) rfl (by rw [hml]; rfl) (Steps.refl _) (argsL := [(.int (0 : Int32)), (.ref b4)]) (rest := []) (lenOf pd1 rfl) rfl (by show 2 * 0 + _ ≤ _; exact Nat.le_of_eq rfl) (hb hby at_70) (fun _ _ => ⟨rfl, rfl, (by decide : 7 + 0 ≤ _), (by decide : 4107 + 0 ≤ _)⟩)
      dsimp only [Pt.U, Pt.locs, Pt.cells, Pt.slots] at X22 l22 y22 z22 st22 hQ22
      subst l22 y22 z22
      obtain ⟨rfl, Nq22, Kq22, Vq22⟩ := hQ22
      have N22 := Fr.app N11 Nq22
      have V6_b4_c22 : Arv Z T22.heap b4 k4 .long (2 : Int32) [(.long q2), (.long q3)] (.long (0 : Int64)) := V6_b4_c11.keep Kq22 (ninS ne_b4_lb nin0)
      have V9_b7_c22 : Arv Z T22.heap b7 k7 .long (2 : Int32) [(.long q4), (.long q5)] (.long (0 : Int64)) := V9_b7_c11.keep Kq22 (ninS ne_b7_lb nin0)
      have Eq11_c22 : Exa Z T22.heap b10 "com/example/mave/mave/engine/StateGraph" := Eq11.keep Kq22
      have Fq11_labels_c22 : Fld Z T22.heap b10 "com/example/mave/mave/engine/StateGraph" "labels" "[J" (.ref lb) := Fq11_labels.keep Kq22 (ninS ne_b10_lb nin0)
      have Fq11_words_c22 : Fld Z T22.heap b10 "com/example/mave/mave/engine/StateGraph" "words" "I" (.int (2 : Int32)) := Fq11_words.keep Kq22 (ninS ne_b10_lb nin0)
      have Z22 : n0 ≤ T22.heap.size := Nat.le_trans Z11 Kq22.1
      have Vn22 : Arv Z T22.heap lb kl .long (1024 : Int32) [(.long q2), (.long q3), (.long (0 : Int64)), (.long (0 : Int64))] (.long (0 : Int64)) := Vq22
      refine own_go (G := T22.setTop (mkF m 73 #[.val (.int p0), .val (.int p1), .val (.long q2), .second, .val (.long q3), .second, .val (.long q4), .second, .val (.long q5), .second, .val (.int v1), .val (.int (0 : Int32)), .val (.int v3), .val (.ref b4), .val (.ref b7), .val (.ref b10), .unset] [])) (fun _ k => st22.trans k) ?_
      refine own_go (G := T22.setTop (mkF m 75 #[.val (.int p0), .val (.int p1), .val (.long q2), .second, .val (.long q3), .second, .val (.long q4), .second, .val (.long q5), .second, .val (.int v1), .val (.int (0 : Int32)), .val (.int v3), .val (.ref b4), .val (.ref b7), .val (.ref b10), .unset] [(.ref b10)])) (fun _ k => XS.aload X22.here hx rfl (hb hby at_73) rfl rfl k) ?_
      refine own_go (G := T22.setTop (mkF m 76 #[.val (.int p0), .val (.int p1), .val (.long q2), .second, .val (.long q3), .second, .val (.long q4), .second, .val (.long q5), .second, .val (.int v1), .val (.int (0 : Int32)), .val (.int v3), .val (.ref b4), .val (.ref b7), .val (.ref b10), .unset] [(.int (1 : Int32)), (.ref b10)])) (fun _ k => XS.iconst X22.here hx rfl (hb hby at_75) k) ?_
      refine own_go (G := T22.setTop (mkF m 78 #[.val (.int p0), .val (.int p1), .val (.long q2), .second, .val (.long q3), .second, .val (.long q4), .second, .val (.long q5), .second, .val (.int v1), .val (.int (0 : Int32)), .val (.int v3), .val (.ref b4), .val (.ref b7), .val (.ref b10), .unset] [(.ref b7), (.int (1 : Int32)), (.ref b10)])) (fun _ k => XS.aload X22.here hx rfl (hb hby at_76) rfl rfl k) ?_
      obtain ⟨cq23, kq23, qk23a, qk23b, qk23c⟩ := isOf hZ rfl Eq11_c22
      obtain ⟨_, _, ⟨T23, L23, k23, n23⟩, -, X23, ⟨Lc23, hQ23, l23, y23, z23⟩, st23⟩ := X22.virtualBack hx (y := (⟨"com/example/mave/mave/engine/StateGraph", "label", "(I[J)V"⟩ : MethodName)) (z := (⟨"com/example/mave/mave/engine/StateGraph", "label", "(I[J)V"⟩ : MethodName)) hown (mvT hZ (hw _ (List.mem_of_getElem? (i := 21) rfl))) (mvT hZ (hw _ (List.mem_of_getElem? (i := 22) rfl))) (notFace_of_selects (args := #[]) (mvT hZ (hw _ (List.mem_of_getElem? (i := 24) rfl)))) (mvT hZ (hw _ (List.mem_of_getElem? (i := 24) rfl))) (mvT hZ (hw _ (List.mem_of_getElem? (i := 23) rfl))) (by decide) (backOf (W := 0) (rm3 l Z a0 hw [] b10 (1 : Int32) b7 (2 : Int32) lb k7 kl [(.long q4), (.long q5)] [(.long q2), (.long q3), (.long (0 : Int64)), (.long (0 : Int64))] T22.heap n0 Z22 Fq11_words_c22 Fq11_labels_c22 V9_b7_c22 Vn22 gn_lb ne_b7_lb ne_b10_lb (by decide) (by decide) (by decide) (by decide) (by decide) (Nat.le_of_ble_eq_true rfl)) hZ (hw _ (List.mem_of_getElem? (i := 25) rfl)) (hw _ (List.mem_of_getElem? (i := 3) rfl)) (by decide) (by decide)) qk23a qk23c (g := (mkF m 78 #[.val (.int p0), .val (.int p1), .val (.long q2), .second, .val (.long q3), .second, .val (.long q4), .second, .val (.long q5), .second, .val (.int v1), .val (.int (0 : Int32)), .val (.int v3), .val (.ref b4), .val (.ref b7), .val (.ref b10), .unset] [(.ref b7), (.int (1 : Int32)), (.ref b10)])) rfl (by rw [hml]; rfl) (Steps.refl _) (argsL := [(.int (1 : Int32)), (.ref b7)]) (rest := []) (lenOf pd1 rfl) rfl (by show 2 * 0 + _ ≤ _; exact Nat.le_of_eq rfl) (hb hby at_78) (fun _ _ => ⟨rfl, rfl, (by decide : 7 + 0 ≤ _), (by decide : 4107 + 0 ≤ _)⟩)
      dsimp only [Pt.U, Pt.locs, Pt.cells, Pt.slots] at X23 l23 y23 z23 st23 hQ23
      subst l23 y23 z23
      obtain ⟨rfl, Nq23, Kq23, Vq23⟩ := hQ23
      have N23 := Fr.app N22 Nq23
      have V6_b4_c23 : Arv Z T23.heap b4 k4 .long (2 : Int32) [(.long q2), (.long q3)] (.long (0 : Int64)) := V6_b4_c22.keep Kq23 (ninS ne_b4_lb nin0)
      have V9_b7_c23 : Arv Z T23.heap b7 k7 .long (2 : Int32) [(.long q4), (.long q5)] (.long (0 : Int64)) := V9_b7_c22.keep Kq23 (ninS ne_b7_lb nin0)
      have Eq11_c23 : Exa Z T23.heap b10 "com/example/mave/mave/engine/StateGraph" := Eq11_c22.keep Kq23
      have Fq11_labels_c23 : Fld Z T23.heap b10 "com/example/mave/mave/engine/StateGraph" "labels" "[J" (.ref lb) := Fq11_labels_c22.keep Kq23 (ninS ne_b10_lb nin0)
      have Fq11_words_c23 : Fld Z T23.heap b10 "com/example/mave/mave/engine/StateGraph" "words" "I" (.int (2 : Int32)) := Fq11_words_c22.keep Kq23 (ninS ne_b10_lb nin0)
      have Z23 : n0 ≤ T23.heap.size := Nat.le_trans Z22 Kq23.1
      have Vn23 : Arv Z T23.heap lb kl .long (1024 : Int32) [(.long q2), (.long q3), (.long q4), (.long q5)] (.long (0 : Int64)) := Vq23
      refine own_go (G := T23.setTop (mkF m 81 #[.val (.int p0), .val (.int p1), .val (.long q2), .second, .val (.long q3), .second, .val (.long q4), .second, .val (.long q5), .second, .val (.int v1), .val (.int (0 : Int32)), .val (.int v3), .val (.ref b4), .val (.ref b7), .val (.ref b10), .unset] [])) (fun _ k => st23.trans k) ?_
      refine own_go (G := T23.setTop (mkF m 83 #[.val (.int p0), .val (.int p1), .val (.long q2), .second, .val (.long q3), .second, .val (.long q4), .second, .val (.long q5), .second, .val (.int v1), .val (.int (0 : Int32)), .val (.int v3), .val (.ref b4), .val (.ref b7), .val (.ref b10), .unset] [(.ref b10)])) (fun _ k => XS.aload X23.here hx rfl (hb hby at_81) rfl rfl k) ?_
      refine own_go (G := T23.setTop (mkF m 85 #[.val (.int p0), .val (.int p1), .val (.long q2), .second, .val (.long q3), .second, .val (.long q4), .second, .val (.long q5), .second, .val (.int v1), .val (.int (0 : Int32)), .val (.int v3), .val (.ref b4), .val (.ref b7), .val (.ref b10), .unset] [(.int (0 : Int32)), (.ref b10)])) (fun _ k => XS.iload X23.here hx rfl (hb hby at_83) rfl k) ?_
      refine own_go (G := T23.setTop (mkF m 87 #[.val (.int p0), .val (.int p1), .val (.long q2), .second, .val (.long q3), .second, .val (.long q4), .second, .val (.long q5), .second, .val (.int v1), .val (.int (0 : Int32)), .val (.int v3), .val (.ref b4), .val (.ref b7), .val (.ref b10), .unset] [(.int v3), (.int (0 : Int32)), (.ref b10)])) (fun _ k => XS.iload X23.here hx rfl (hb hby at_85) rfl k) ?_
      obtain ⟨cl, Ar, q_cl, S_cl, N_cl, Ha_cl, G_cl⟩ := id Vn23
      have hj : (((0 : Int32) * (2 : Int32)) + (v3 / (64 : Int32))) = (0 : Int32) := by rw [hbit]; decide
      have hin : ¬ ((((0 : Int32) * (2 : Int32)) + (v3 / (64 : Int32))) < 0 ∨ cl.slots.size ≤ ((((0 : Int32) * (2 : Int32)) + (v3 / (64 : Int32)))).toNatClampNeg) := inb_of S_cl (by rw [hj]; exact ⟨by decide, by decide⟩)
      have hat : cl.slots[((((0 : Int32) * (2 : Int32)) + (v3 / (64 : Int32)))).toNatClampNeg]? = some (.long q2) := Ha_cl.at hin (by rw [hj]; rfl)
      obtain ⟨cq24, kq24, qk24a, qk24b, qk24c⟩ := isOf hZ rfl Eq11_c23
      obtain ⟨_, _, ⟨T24, L24, k24, n24⟩, -, X24, ⟨Lc24, hQ24, l24, y24, z24⟩, st24⟩ := X23.virtualBack hx (y := (⟨"com/example/mave/mave/engine/StateGraph", "holds", "(II)Z"⟩ : MethodName)) (z := (⟨"com/example/mave/mave/engine/StateGraph", "holds", "(II)Z"⟩ : MethodName)) hown (mvT hZ (hw _ (List.mem_of_getElem? (i := 30) rfl))) (mvT hZ (hw _ (List.mem_of_getElem? (i := 31) rfl))) (notFace_of_selects (args := #[]) (mvT hZ (hw _ (List.mem_of_getElem? (i := 33) rfl)))) (mvT hZ (hw _ (List.mem_of_getElem? (i := 33) rfl))) (mvT hZ (hw _ (List.mem_of_getElem? (i := 32) rfl))) (by decide) (backOf (W := 0) (rm4 l Z a0 hw [] b10 (0 : Int32) v3 (2 : Int32) lb cl q2 T23.heap n0 Z23 Fq11_words_c23 Fq11_labels_c23 Ar hin hat) hZ (hw _ (List.mem_of_getElem? (i := 34) rfl)) (hw _ (List.mem_of_getElem? (i := 3) rfl)) (by decide) (by decide)) qk24a qk24c (g := (mkF m 87 #[.val (.int p0), .val (.int p1), .val (.long q2), .second, .val (.long q3), .second, .val (.long q4), .second, .val (.long q5), .second, .val (.int v1), .val (.int (0 : Int32)), .val (.int v3), .val (.ref b4), .val (.ref b7), .val (.ref b10), .unset] [(.int v3), (.int (0 : Int32)), (.ref b10)])) rfl (by rw [hml]; rfl) (Steps.refl _) (argsL := [(.int (0 : Int32)), (.int v3)]) (rest := []) (lenOf pd2 rfl) rfl (by show 2 * 0 + _ ≤ _; exact Nat.le_of_eq rfl) (hb hby at_87) (fun _ _ => ⟨rfl, rfl, (by decide : 7 + 0 ≤ _), (by decide : 4107 + 0 ≤ _)⟩)
      dsimp only [Pt.U, Pt.locs, Pt.cells, Pt.slots] at X24 l24 y24 z24 st24 hQ24
      subst l24 y24 z24
      obtain ⟨rfl, Nq24, e24⟩ := hQ24
      have N24 := Fr.app N23 Nq24
      refine own_go (G := T24.setTop (mkF m 90 #[.val (.int p0), .val (.int p1), .val (.long q2), .second, .val (.long q3), .second, .val (.long q4), .second, .val (.long q5), .second, .val (.int v1), .val (.int (0 : Int32)), .val (.int v3), .val (.ref b4), .val (.ref b7), .val (.ref b10), .unset] [(.int (F4 b10 (0 : Int32) v3 (2 : Int32) lb cl q2))])) (fun _ k => st24.trans k) ?_
      generalize hv25 : (F4 b10 (0 : Int32) v3 (2 : Int32) lb cl q2) = v25
      refine own_go (G := T24.setTop (mkF m 92 #[.val (.int p0), .val (.int p1), .val (.long q2), .second, .val (.long q3), .second, .val (.long q4), .second, .val (.long q5), .second, .val (.int v1), .val (.int (0 : Int32)), .val (.int v3), .val (.ref b4), .val (.ref b7), .val (.ref b10), .val (.int v25)] [])) (fun _ k => XS.istore X24.here hx rfl (hb hby at_90) rfl (l' := #[.val (.int p0), .val (.int p1), .val (.long q2), .second, .val (.long q3), .second, .val (.long q4), .second, .val (.long q5), .second, .val (.int v1), .val (.int (0 : Int32)), .val (.int v3), .val (.ref b4), .val (.ref b7), .val (.ref b10), .val (.int v25)]) rfl k) ?_
      refine own_go (G := T24.setTop (mkF m 94 #[.val (.int p0), .val (.int p1), .val (.long q2), .second, .val (.long q3), .second, .val (.long q4), .second, .val (.long q5), .second, .val (.int v1), .val (.int (0 : Int32)), .val (.int v3), .val (.ref b4), .val (.ref b7), .val (.ref b10), .val (.int v25)] [(.int v25)])) (fun _ k => XS.iload X24.here hx rfl (hb hby at_92) rfl k) ?_
      refine own_go (G := T24.setTop (mkF m 96 #[.val (.int p0), .val (.int p1), .val (.long q2), .second, .val (.long q3), .second, .val (.long q4), .second, .val (.long q5), .second, .val (.int v1), .val (.int (0 : Int32)), .val (.int v3), .val (.ref b4), .val (.ref b7), .val (.ref b10), .val (.int v25)] [(.int (0 : Int32)), (.int v25)])) (fun _ k => XS.iload X24.here hx rfl (hb hby at_94) rfl k) ?_
      refine own_go (G := T24.setTop (mkF m 98 #[.val (.int p0), .val (.int p1), .val (.long q2), .second, .val (.long q3), .second, .val (.long q4), .second, .val (.long q5), .second, .val (.int v1), .val (.int (0 : Int32)), .val (.int v3), .val (.ref b4), .val (.ref b7), .val (.ref b10), .val (.int v25)] [(.int v3), (.int (0 : Int32)), (.int v25)])) (fun _ k => XS.iload X24.here hx rfl (hb hby at_96) rfl k) ?_
      refine own_go (G := T24.setTop (mkF m 99 #[.val (.int p0), .val (.int p1), .val (.long q2), .second, .val (.long q3), .second, .val (.long q4), .second, .val (.long q5), .second, .val (.int v1), .val (.int (0 : Int32)), .val (.int v3), .val (.ref b4), .val (.ref b7), .val (.ref b10), .val (.int v25)] [(.long q2), (.int v3), (.int (0 : Int32)), (.int v25)])) (fun _ k => XS.lloadN X24.here hx rfl (hb hby at_98) rfl k) ?_
      refine own_go (G := T24.setTop (mkF m 101 #[.val (.int p0), .val (.int p1), .val (.long q2), .second, .val (.long q3), .second, .val (.long q4), .second, .val (.long q5), .second, .val (.int v1), .val (.int (0 : Int32)), .val (.int v3), .val (.ref b4), .val (.ref b7), .val (.ref b10), .val (.int v25)] [(.long q3), (.long q2), (.int v3), (.int (0 : Int32)), (.int v25)])) (fun _ k => XS.lload X24.here hx rfl (hb hby at_99) rfl k) ?_
      refine own_go (G := T24.setTop (mkF m 103 #[.val (.int p0), .val (.int p1), .val (.long q2), .second, .val (.long q3), .second, .val (.long q4), .second, .val (.long q5), .second, .val (.int v1), .val (.int (0 : Int32)), .val (.int v3), .val (.ref b4), .val (.ref b7), .val (.ref b10), .val (.int v25)] [(.long q4), (.long q3), (.long q2), (.int v3), (.int (0 : Int32)), (.int v25)])) (fun _ k => XS.lload X24.here hx rfl (hb hby at_101) rfl k) ?_
      refine own_go (G := T24.setTop (mkF m 105 #[.val (.int p0), .val (.int p1), .val (.long q2), .second, .val (.long q3), .second, .val (.long q4), .second, .val (.long q5), .second, .val (.int v1), .val (.int (0 : Int32)), .val (.int v3), .val (.ref b4), .val (.ref b7), .val (.ref b10), .val (.int v25)] [(.long q5), (.long q4), (.long q3), (.long q2), (.int v3), (.int (0 : Int32)), (.int v25)])) (fun _ k => XS.lload X24.here hx rfl (hb hby at_103) rfl k) ?_
      obtain ⟨_, _, ⟨T26, L26, k26, n26⟩, -, X26, ⟨Lc26, hQ26, l26, y26, z26⟩, st26⟩ := Jvm.LawKit.callS X24 hx (y := (⟨"com/example/mave/mave/engine/StateGraphHoldsPinLaw", "expected", "(IIJJJJ)Z"⟩ : MethodName)) hown (mvT hZ (hw _ (List.mem_of_getElem? (i := 35) rfl))) (mvT hZ (hw _ (List.mem_of_getElem? (i := 36) rfl))) (mvT hZ (hw _ (List.mem_of_getElem? (i := 37) rfl))) (mvT hZ (hw _ (List.mem_of_getElem? (i := 38) rfl))) (by decide) (backOf (W := 1) (rm5 l Z a0 hw [] (0 : Int32) v3 q2 q3 q4 q5 T23.heap n0 Z23) hZ (hw _ (List.mem_of_getElem? (i := 38) rfl)) (hw _ (List.mem_of_getElem? (i := 37) rfl)) (by decide) (by decide)) (g := (mkF m 105 #[.val (.int p0), .val (.int p1), .val (.long q2), .second, .val (.long q3), .second, .val (.long q4), .second, .val (.long q5), .second, .val (.int v1), .val (.int (0 : Int32)), .val (.int v3), .val (.ref b4), .val (.ref b7), .val (.ref b10), .val (.int v25)] [(.long q5), (.long q4), (.long q3), (.long q2), (.int v3), (.int (0 : Int32)), (.int v25)])) rfl (by rw [hml]; rfl) (argsL := [(.int (0 : Int32)), (.int v3), (.long q2), (.long q3), (.long q4), (.long q5)]) (rest := [(.int v25)]) (lenOf pd3 rfl) rfl (by show 2 * 0 + _ ≤ _; exact Nat.le_of_eq rfl) (hb hby at_105) (fun _ _ => ⟨rfl, e24, (by decide : 7 + 0 ≤ _), (by decide : 4107 + 0 ≤ _)⟩)
      dsimp only [Pt.U, Pt.locs, Pt.cells, Pt.slots] at X26 l26 y26 z26 st26 hQ26
      subst l26 y26 z26
      obtain ⟨rfl, Nq26, e26⟩ := hQ26
      have N26 := Fr.app N24 Nq26
      refine own_go (G := T26.setTop (mkF m 108 #[.val (.int p0), .val (.int p1), .val (.long q2), .second, .val (.long q3), .second, .val (.long q4), .second, .val (.long q5), .second, .val (.int v1), .val (.int (0 : Int32)), .val (.int v3), .val (.ref b4), .val (.ref b7), .val (.ref b10), .val (.int v25)] [(.int (F5 (0 : Int32) v3 q2 q3 q4 q5)), (.int v25)])) (st26) ?_
      refine own_go (G := T26.setTop (mkF m 111 #[.val (.int p0), .val (.int p1), .val (.long q2), .second, .val (.long q3), .second, .val (.long q4), .second, .val (.long q5), .second, .val (.int v1), .val (.int (0 : Int32)), .val (.int v3), .val (.ref b4), .val (.ref b7), .val (.ref b10), .val (.int v25)] [])) (fun _ k => XS.icmpNo X26.here hx rfl (hb hby at_108) rfl (teq (own_fin00 hbit hv25 : v25 = (F5 (0 : Int32) v3 q2 q3 q4 q5))).2 k) ?_
      refine own_go (G := T26.setTop (mkF m 112 #[.val (.int p0), .val (.int p1), .val (.long q2), .second, .val (.long q3), .second, .val (.long q4), .second, .val (.long q5), .second, .val (.int v1), .val (.int (0 : Int32)), .val (.int v3), .val (.ref b4), .val (.ref b7), .val (.ref b10), .val (.int v25)] [(.int (1 : Int32))])) (fun _ k => XS.iconst X26.here hx rfl (hb hby at_111) k) ?_
      refine own_go (G := T26.setTop (mkF m 116 #[.val (.int p0), .val (.int p1), .val (.long q2), .second, .val (.long q3), .second, .val (.long q4), .second, .val (.long q5), .second, .val (.int v1), .val (.int (0 : Int32)), .val (.int v3), .val (.ref b4), .val (.ref b7), .val (.ref b10), .val (.int v25)] [(.int (1 : Int32))])) (fun _ k => XS.goto X26.here hx rfl (pc0 := 112) (pc' := 116) rfl (hb hby at_112) (by decide) (by decide) k) ?_
      exact own_ret1 X26 hx Bd.returns (hb hby at_116) Bd.notSynchronized (by decide) (by decide) ⟨rfl, N26⟩
    · subst hsv
      refine own_go (G := T11.setTop (mkF m 67 #[.val (.int p0), .val (.int p1), .val (.long q2), .second, .val (.long q3), .second, .val (.long q4), .second, .val (.long q5), .second, .val (.int v1), .val (.int (1 : Int32)), .val (.int v3), .val (.ref b4), .val (.ref b7), .val (.ref b10), .unset] [(.ref b10)])) (fun _ k => XS.aload X11.here hx rfl (hb hby at_65) rfl rfl k) ?_
      refine own_go (G := T11.setTop (mkF m 68 #[.val (.int p0), .val (.int p1), .val (.long q2), .second, .val (.long q3), .second, .val (.long q4), .second, .val (.long q5), .second, .val (.int v1), .val (.int (1 : Int32)), .val (.int v3), .val (.ref b4), .val (.ref b7), .val (.ref b10), .unset] [(.int (0 : Int32)), (.ref b10)])) (fun _ k => XS.iconst X11.here hx rfl (hb hby at_67) k) ?_
      refine own_go (G := T11.setTop (mkF m 70 #[.val (.int p0), .val (.int p1), .val (.long q2), .second, .val (.long q3), .second, .val (.long q4), .second, .val (.long q5), .second, .val (.int v1), .val (.int (1 : Int32)), .val (.int v3), .val (.ref b4), .val (.ref b7), .val (.ref b10), .unset] [(.ref b4), (.int (0 : Int32)), (.ref b10)])) (fun _ k => XS.aload X11.here hx rfl (hb hby at_68) rfl rfl k) ?_
      obtain ⟨cq27, kq27, qk27a, qk27b, qk27c⟩ := isOf hZ rfl Eq11
      obtain ⟨_, _, ⟨T27, L27, k27, n27⟩, -, X27, ⟨Lc27, hQ27, l27, y27, z27⟩, st27⟩ := X11.virtualBack hx (y := (⟨"com/example/mave/mave/engine/StateGraph", "label", "(I[J)V"⟩ : MethodName)) (z := (⟨"com/example/mave/mave/engine/StateGraph", "label", "(I[J)V"⟩ : MethodName)) hown (mvT hZ (hw _ (List.mem_of_getElem? (i := 21) rfl))) (mvT hZ (hw _ (List.mem_of_getElem? (i := 22) rfl))) (notFace_of_selects (args := #[]) (mvT hZ (hw _ (List.mem_of_getElem? (i := 24) rfl)))) (mvT hZ (hw _ (List.mem_of_getElem? (i := 24) rfl))) (mvT hZ (hw _ (List.mem_of_getElem? (i := 23) rfl))) (by decide) (backOf (W := 0) (rm3 l Z a0 hw [] b10 (0 : Int32) b4 (2 : Int32) lb k4 kl [(.long q2), (.long q3)] [(.long (0 : Int64)), (.long (0 : Int64)), (.long (0 : Int64)), (.long (0 : Int64))] T11.heap n0 Z11 Fq11_words Fq11_labels V6_b4_c11 Vl4 gn_lb ne_b4_lb ne_b10_lb (by decide) (by decide) (by decide) (by decide) (by decide) (Nat.le_of_ble_eq_true rfl)) hZ (hw _ (List.mem_of_getElem? (i := 25) rfl)) (hw _ (List.mem_of_getElem? (i := 3) rfl)) (by decide) (by decide)) qk27a qk27c (g := (mkF m 70 #[.val (.int p0), .val (.int p1), .val (.long q2), .second, .val (.long q3), .second, .val (.long q4), .second, .val (.long q5), .second, .val (.int v1), .val (.int (1 : Int32)), .val (.int v3), .val (.ref b4), .val (.ref b7), .val (.ref b10), .unset] [(.ref b4), (.int (0 : Int32)), (.ref b10)])) rfl (by rw [hml]; rfl) (Steps.refl _) (argsL := [(.int (0 : Int32)), (.ref b4)]) (rest := []) (lenOf pd1 rfl) rfl (by show 2 * 0 + _ ≤ _; exact Nat.le_of_eq rfl) (hb hby at_70) (fun _ _ => ⟨rfl, rfl, (by decide : 7 + 0 ≤ _), (by decide : 4107 + 0 ≤ _)⟩)
      dsimp only [Pt.U, Pt.locs, Pt.cells, Pt.slots] at X27 l27 y27 z27 st27 hQ27
      subst l27 y27 z27
      obtain ⟨rfl, Nq27, Kq27, Vq27⟩ := hQ27
      have N27 := Fr.app N11 Nq27
      have V6_b4_c27 : Arv Z T27.heap b4 k4 .long (2 : Int32) [(.long q2), (.long q3)] (.long (0 : Int64)) := V6_b4_c11.keep Kq27 (ninS ne_b4_lb nin0)
      have V9_b7_c27 : Arv Z T27.heap b7 k7 .long (2 : Int32) [(.long q4), (.long q5)] (.long (0 : Int64)) := V9_b7_c11.keep Kq27 (ninS ne_b7_lb nin0)
      have Eq11_c27 : Exa Z T27.heap b10 "com/example/mave/mave/engine/StateGraph" := Eq11.keep Kq27
      have Fq11_labels_c27 : Fld Z T27.heap b10 "com/example/mave/mave/engine/StateGraph" "labels" "[J" (.ref lb) := Fq11_labels.keep Kq27 (ninS ne_b10_lb nin0)
      have Fq11_words_c27 : Fld Z T27.heap b10 "com/example/mave/mave/engine/StateGraph" "words" "I" (.int (2 : Int32)) := Fq11_words.keep Kq27 (ninS ne_b10_lb nin0)
      have Z27 : n0 ≤ T27.heap.size := Nat.le_trans Z11 Kq27.1
      have Vn27 : Arv Z T27.heap lb kl .long (1024 : Int32) [(.long q2), (.long q3), (.long (0 : Int64)), (.long (0 : Int64))] (.long (0 : Int64)) := Vq27
      refine own_go (G := T27.setTop (mkF m 73 #[.val (.int p0), .val (.int p1), .val (.long q2), .second, .val (.long q3), .second, .val (.long q4), .second, .val (.long q5), .second, .val (.int v1), .val (.int (1 : Int32)), .val (.int v3), .val (.ref b4), .val (.ref b7), .val (.ref b10), .unset] [])) (fun _ k => st27.trans k) ?_
      refine own_go (G := T27.setTop (mkF m 75 #[.val (.int p0), .val (.int p1), .val (.long q2), .second, .val (.long q3), .second, .val (.long q4), .second, .val (.long q5), .second, .val (.int v1), .val (.int (1 : Int32)), .val (.int v3), .val (.ref b4), .val (.ref b7), .val (.ref b10), .unset] [(.ref b10)])) (fun _ k => XS.aload X27.here hx rfl (hb hby at_73) rfl rfl k) ?_
      refine own_go (G := T27.setTop (mkF m 76 #[.val (.int p0), .val (.int p1), .val (.long q2), .second, .val (.long q3), .second, .val (.long q4), .second, .val (.long q5), .second, .val (.int v1), .val (.int (1 : Int32)), .val (.int v3), .val (.ref b4), .val (.ref b7), .val (.ref b10), .unset] [(.int (1 : Int32)), (.ref b10)])) (fun _ k => XS.iconst X27.here hx rfl (hb hby at_75) k) ?_
      refine own_go (G := T27.setTop (mkF m 78 #[.val (.int p0), .val (.int p1), .val (.long q2), .second, .val (.long q3), .second, .val (.long q4), .second, .val (.long q5), .second, .val (.int v1), .val (.int (1 : Int32)), .val (.int v3), .val (.ref b4), .val (.ref b7), .val (.ref b10), .unset] [(.ref b7), (.int (1 : Int32)), (.ref b10)])) (fun _ k => XS.aload X27.here hx rfl (hb hby at_76) rfl rfl k) ?_
      obtain ⟨cq28, kq28, qk28a, qk28b, qk28c⟩ := isOf hZ rfl Eq11_c27
      obtain ⟨_, _, ⟨T28, L28, k28, n28⟩, -, X28, ⟨Lc28, hQ28, l28, y28, z28⟩, st28⟩ := X27.virtualBack hx (y := (⟨"com/example/mave/mave/engine/StateGraph", "label", "(I[J)V"⟩ : MethodName)) (z := (⟨"com/example/mave/mave/engine/StateGraph", "label", "(I[J)V"⟩ : MethodName)) hown (mvT hZ (hw _ (List.mem_of_getElem? (i := 21) rfl))) (mvT hZ (hw _ (List.mem_of_getElem? (i := 22) rfl))) (notFace_of_selects (args := #[]) (mvT hZ (hw _ (List.mem_of_getElem? (i := 24) rfl)))) (mvT hZ (hw _ (List.mem_of_getElem? (i := 24) rfl))) (mvT hZ (hw _ (List.mem_of_getElem? (i := 23) rfl))) (by decide) (backOf (W := 0) (rm3 l Z a0 hw [] b10 (1 : Int32) b7 (2 : Int32) lb k7 kl [(.long q4), (.long q5)] [(.long q2), (.long q3), (.long (0 : Int64)), (.long (0 : Int64))] T27.heap n0 Z27 Fq11_words_c27 Fq11_labels_c27 V9_b7_c27 Vn27 gn_lb ne_b7_lb ne_b10_lb (by decide) (by decide) (by decide) (by decide) (by decide) (Nat.le_of_ble_eq_true rfl)) hZ (hw _ (List.mem_of_getElem? (i := 25) rfl)) (hw _ (List.mem_of_getElem? (i := 3) rfl)) (by decide) (by decide)) qk28a qk28c (g := (mkF m 78 #[.val (.int p0), .val (.int p1), .val (.long q2), .second, .val (.long q3), .second, .val (.long q4), .second, .val (.long q5), .second, .val (.int v1), .val (.int (1 : Int32)), .val (.int v3), .val (.ref b4), .val (.ref b7), .val (.ref b10), .unset] [(.ref b7), (.int (1 : Int32)), (.ref b10)])) rfl (by rw [hml]; rfl) (Steps.refl _) (argsL := [(.int (1 : Int32)), (.ref b7)]) (rest := []) (lenOf pd1 rfl) rfl (by show 2 * 0 + _ ≤ _; exact Nat.le_of_eq rfl) (hb hby at_78) (fun _ _ => ⟨rfl, rfl, (by decide : 7 + 0 ≤ _), (by decide : 4107 + 0 ≤ _)⟩)
      dsimp only [Pt.U, Pt.locs, Pt.cells, Pt.slots] at X28 l28 y28 z28 st28 hQ28
      subst l28 y28 z28
      obtain ⟨rfl, Nq28, Kq28, Vq28⟩ := hQ28
      have N28 := Fr.app N27 Nq28
      have V6_b4_c28 : Arv Z T28.heap b4 k4 .long (2 : Int32) [(.long q2), (.long q3)] (.long (0 : Int64)) := V6_b4_c27.keep Kq28 (ninS ne_b4_lb nin0)
      have V9_b7_c28 : Arv Z T28.heap b7 k7 .long (2 : Int32) [(.long q4), (.long q5)] (.long (0 : Int64)) := V9_b7_c27.keep Kq28 (ninS ne_b7_lb nin0)
      have Eq11_c28 : Exa Z T28.heap b10 "com/example/mave/mave/engine/StateGraph" := Eq11_c27.keep Kq28
      have Fq11_labels_c28 : Fld Z T28.heap b10 "com/example/mave/mave/engine/StateGraph" "labels" "[J" (.ref lb) := Fq11_labels_c27.keep Kq28 (ninS ne_b10_lb nin0)
      have Fq11_words_c28 : Fld Z T28.heap b10 "com/example/mave/mave/engine/StateGraph" "words" "I" (.int (2 : Int32)) := Fq11_words_c27.keep Kq28 (ninS ne_b10_lb nin0)
      have Z28 : n0 ≤ T28.heap.size := Nat.le_trans Z27 Kq28.1
      have Vn28 : Arv Z T28.heap lb kl .long (1024 : Int32) [(.long q2), (.long q3), (.long q4), (.long q5)] (.long (0 : Int64)) := Vq28
      refine own_go (G := T28.setTop (mkF m 81 #[.val (.int p0), .val (.int p1), .val (.long q2), .second, .val (.long q3), .second, .val (.long q4), .second, .val (.long q5), .second, .val (.int v1), .val (.int (1 : Int32)), .val (.int v3), .val (.ref b4), .val (.ref b7), .val (.ref b10), .unset] [])) (fun _ k => st28.trans k) ?_
      refine own_go (G := T28.setTop (mkF m 83 #[.val (.int p0), .val (.int p1), .val (.long q2), .second, .val (.long q3), .second, .val (.long q4), .second, .val (.long q5), .second, .val (.int v1), .val (.int (1 : Int32)), .val (.int v3), .val (.ref b4), .val (.ref b7), .val (.ref b10), .unset] [(.ref b10)])) (fun _ k => XS.aload X28.here hx rfl (hb hby at_81) rfl rfl k) ?_
      refine own_go (G := T28.setTop (mkF m 85 #[.val (.int p0), .val (.int p1), .val (.long q2), .second, .val (.long q3), .second, .val (.long q4), .second, .val (.long q5), .second, .val (.int v1), .val (.int (1 : Int32)), .val (.int v3), .val (.ref b4), .val (.ref b7), .val (.ref b10), .unset] [(.int (1 : Int32)), (.ref b10)])) (fun _ k => XS.iload X28.here hx rfl (hb hby at_83) rfl k) ?_
      refine own_go (G := T28.setTop (mkF m 87 #[.val (.int p0), .val (.int p1), .val (.long q2), .second, .val (.long q3), .second, .val (.long q4), .second, .val (.long q5), .second, .val (.int v1), .val (.int (1 : Int32)), .val (.int v3), .val (.ref b4), .val (.ref b7), .val (.ref b10), .unset] [(.int v3), (.int (1 : Int32)), (.ref b10)])) (fun _ k => XS.iload X28.here hx rfl (hb hby at_85) rfl k) ?_
      obtain ⟨cl, Ar, q_cl, S_cl, N_cl, Ha_cl, G_cl⟩ := id Vn28
      have hj : (((1 : Int32) * (2 : Int32)) + (v3 / (64 : Int32))) = (2 : Int32) := by rw [hbit]; decide
      have hin : ¬ ((((1 : Int32) * (2 : Int32)) + (v3 / (64 : Int32))) < 0 ∨ cl.slots.size ≤ ((((1 : Int32) * (2 : Int32)) + (v3 / (64 : Int32)))).toNatClampNeg) := inb_of S_cl (by rw [hj]; exact ⟨by decide, by decide⟩)
      have hat : cl.slots[((((1 : Int32) * (2 : Int32)) + (v3 / (64 : Int32)))).toNatClampNeg]? = some (.long q4) := Ha_cl.at hin (by rw [hj]; rfl)
      obtain ⟨cq29, kq29, qk29a, qk29b, qk29c⟩ := isOf hZ rfl Eq11_c28
      obtain ⟨_, _, ⟨T29, L29, k29, n29⟩, -, X29, ⟨Lc29, hQ29, l29, y29, z29⟩, st29⟩ := X28.virtualBack hx (y := (⟨"com/example/mave/mave/engine/StateGraph", "holds", "(II)Z"⟩ : MethodName)) (z := (⟨"com/example/mave/mave/engine/StateGraph", "holds", "(II)Z"⟩ : MethodName)) hown (mvT hZ (hw _ (List.mem_of_getElem? (i := 30) rfl))) (mvT hZ (hw _ (List.mem_of_getElem? (i := 31) rfl))) (notFace_of_selects (args := #[]) (mvT hZ (hw _ (List.mem_of_getElem? (i := 33) rfl)))) (mvT hZ (hw _ (List.mem_of_getElem? (i := 33) rfl))) (mvT hZ (hw _ (List.mem_of_getElem? (i := 32) rfl))) (by decide) (backOf (W := 0) (rm4 l Z a0 hw [] b10 (1 : Int32) v3 (2 : Int32) lb cl q4 T28.heap n0 Z28 Fq11_words_c28 Fq11_labels_c28 Ar hin hat) hZ (hw _ (List.mem_of_getElem? (i := 34) rfl)) (hw _ (List.mem_of_getElem? (i := 3) rfl)) (by decide) (by decide)) qk29a qk29c (g := (mkF m 87 #[.val (.int p0), .val (.int p1), .val (.long q2), .second, .val (.long q3), .second, .val (.long q4), .second, .val (.long q5), .second, .val (.int v1), .val (.int (1 : Int32)), .val (.int v3), .val (.ref b4), .val (.ref b7), .val (.ref b10), .unset] [(.int v3), (.int (1 : Int32)), (.ref b10)])) rfl (by rw [hml]; rfl) (Steps.refl _) (argsL := [(.int (1 : Int32)), (.int v3)]) (rest := []) (lenOf pd2 rfl) rfl (by show 2 * 0 + _ ≤ _; exact Nat.le_of_eq rfl) (hb hby at_87) (fun _ _ => ⟨rfl, rfl, (by decide : 7 + 0 ≤ _), (by decide : 4107 + 0 ≤ _)⟩)
      dsimp only [Pt.U, Pt.locs, Pt.cells, Pt.slots] at X29 l29 y29 z29 st29 hQ29
      subst l29 y29 z29
      obtain ⟨rfl, Nq29, e29⟩ := hQ29
      have N29 := Fr.app N28 Nq29
      refine own_go (G := T29.setTop (mkF m 90 #[.val (.int p0), .val (.int p1), .val (.long q2), .second, .val (.long q3), .second, .val (.long q4), .second, .val (.long q5), .second, .val (.int v1), .val (.int (1 : Int32)), .val (.int v3), .val (.ref b4), .val (.ref b7), .val (.ref b10), .unset] [(.int (F4 b10 (1 : Int32) v3 (2 : Int32) lb cl q4))])) (fun _ k => st29.trans k) ?_
      generalize hv30 : (F4 b10 (1 : Int32) v3 (2 : Int32) lb cl q4) = v30
      refine own_go (G := T29.setTop (mkF m 92 #[.val (.int p0), .val (.int p1), .val (.long q2), .second, .val (.long q3), .second, .val (.long q4), .second, .val (.long q5), .second, .val (.int v1), .val (.int (1 : Int32)), .val (.int v3), .val (.ref b4), .val (.ref b7), .val (.ref b10), .val (.int v30)] [])) (fun _ k => XS.istore X29.here hx rfl (hb hby at_90) rfl (l' := #[.val (.int p0), .val (.int p1), .val (.long q2), .second, .val (.long q3), .second, .val (.long q4), .second, .val (.long q5), .second, .val (.int v1), .val (.int (1 : Int32)), .val (.int v3), .val (.ref b4), .val (.ref b7), .val (.ref b10), .val (.int v30)]) rfl k) ?_
      refine own_go (G := T29.setTop (mkF m 94 #[.val (.int p0), .val (.int p1), .val (.long q2), .second, .val (.long q3), .second, .val (.long q4), .second, .val (.long q5), .second, .val (.int v1), .val (.int (1 : Int32)), .val (.int v3), .val (.ref b4), .val (.ref b7), .val (.ref b10), .val (.int v30)] [(.int v30)])) (fun _ k => XS.iload X29.here hx rfl (hb hby at_92) rfl k) ?_
      refine own_go (G := T29.setTop (mkF m 96 #[.val (.int p0), .val (.int p1), .val (.long q2), .second, .val (.long q3), .second, .val (.long q4), .second, .val (.long q5), .second, .val (.int v1), .val (.int (1 : Int32)), .val (.int v3), .val (.ref b4), .val (.ref b7), .val (.ref b10), .val (.int v30)] [(.int (1 : Int32)), (.int v30)])) (fun _ k => XS.iload X29.here hx rfl (hb hby at_94) rfl k) ?_
      refine own_go (G := T29.setTop (mkF m 98 #[.val (.int p0), .val (.int p1), .val (.long q2), .second, .val (.long q3), .second, .val (.long q4), .second, .val (.long q5), .second, .val (.int v1), .val (.int (1 : Int32)), .val (.int v3), .val (.ref b4), .val (.ref b7), .val (.ref b10), .val (.int v30)] [(.int v3), (.int (1 : Int32)), (.int v30)])) (fun _ k => XS.iload X29.here hx rfl (hb hby at_96) rfl k) ?_
      refine own_go (G := T29.setTop (mkF m 99 #[.val (.int p0), .val (.int p1), .val (.long q2), .second, .val (.long q3), .second, .val (.long q4), .second, .val (.long q5), .second, .val (.int v1), .val (.int (1 : Int32)), .val (.int v3), .val (.ref b4), .val (.ref b7), .val (.ref b10), .val (.int v30)] [(.long q2), (.int v3), (.int (1 : Int32)), (.int v30)])) (fun _ k => XS.lloadN X29.here hx rfl (hb hby at_98) rfl k) ?_
      refine own_go (G := T29.setTop (mkF m 101 #[.val (.int p0), .val (.int p1), .val (.long q2), .second, .val (.long q3), .second, .val (.long q4), .second, .val (.long q5), .second, .val (.int v1), .val (.int (1 : Int32)), .val (.int v3), .val (.ref b4), .val (.ref b7), .val (.ref b10), .val (.int v30)] [(.long q3), (.long q2), (.int v3), (.int (1 : Int32)), (.int v30)])) (fun _ k => XS.lload X29.here hx rfl (hb hby at_99) rfl k) ?_
      refine own_go (G := T29.setTop (mkF m 103 #[.val (.int p0), .val (.int p1), .val (.long q2), .second, .val (.long q3), .second, .val (.long q4), .second, .val (.long q5), .second, .val (.int v1), .val (.int (1 : Int32)), .val (.int v3), .val (.ref b4), .val (.ref b7), .val (.ref b10), .val (.int v30)] [(.long q4), (.long q3), (.long q2), (.int v3), (.int (1 : Int32)), (.int v30)])) (fun _ k => XS.lload X29.here hx rfl (hb hby at_101) rfl k) ?_
      refine own_go (G := T29.setTop (mkF m 105 #[.val (.int p0), .val (.int p1), .val (.long q2), .second, .val (.long q3), .second, .val (.long q4), .second, .val (.long q5), .second, .val (.int v1), .val (.int (1 : Int32)), .val (.int v3), .val (.ref b4), .val (.ref b7), .val (.ref b10), .val (.int v30)] [(.long q5), (.long q4), (.long q3), (.long q2), (.int v3), (.int (1 : Int32)), (.int v30)])) (fun _ k => XS.lload X29.here hx rfl (hb hby at_103) rfl k) ?_
      obtain ⟨_, _, ⟨T31, L31, k31, n31⟩, -, X31, ⟨Lc31, hQ31, l31, y31, z31⟩, st31⟩ := Jvm.LawKit.callS X29 hx (y := (⟨"com/example/mave/mave/engine/StateGraphHoldsPinLaw", "expected", "(IIJJJJ)Z"⟩ : MethodName)) hown (mvT hZ (hw _ (List.mem_of_getElem? (i := 35) rfl))) (mvT hZ (hw _ (List.mem_of_getElem? (i := 36) rfl))) (mvT hZ (hw _ (List.mem_of_getElem? (i := 37) rfl))) (mvT hZ (hw _ (List.mem_of_getElem? (i := 38) rfl))) (by decide) (backOf (W := 1) (rm5 l Z a0 hw [] (1 : Int32) v3 q2 q3 q4 q5 T28.heap n0 Z28) hZ (hw _ (List.mem_of_getElem? (i := 38) rfl)) (hw _ (List.mem_of_getElem? (i := 37) rfl)) (by decide) (by decide)) (g := (mkF m 105 #[.val (.int p0), .val (.int p1), .val (.long q2), .second, .val (.long q3), .second, .val (.long q4), .second, .val (.long q5), .second, .val (.int v1), .val (.int (1 : Int32)), .val (.int v3), .val (.ref b4), .val (.ref b7), .val (.ref b10), .val (.int v30)] [(.long q5), (.long q4), (.long q3), (.long q2), (.int v3), (.int (1 : Int32)), (.int v30)])) rfl (by rw [hml]; rfl) (argsL := [(.int (1 : Int32)), (.int v3), (.long q2), (.long q3), (.long q4), (.long q5)]) (rest := [(.int v30)]) (lenOf pd3 rfl) rfl (by show 2 * 0 + _ ≤ _; exact Nat.le_of_eq rfl) (hb hby at_105) (fun _ _ => ⟨rfl, e29, (by decide : 7 + 0 ≤ _), (by decide : 4107 + 0 ≤ _)⟩)
      dsimp only [Pt.U, Pt.locs, Pt.cells, Pt.slots] at X31 l31 y31 z31 st31 hQ31
      subst l31 y31 z31
      obtain ⟨rfl, Nq31, e31⟩ := hQ31
      have N31 := Fr.app N29 Nq31
      refine own_go (G := T31.setTop (mkF m 108 #[.val (.int p0), .val (.int p1), .val (.long q2), .second, .val (.long q3), .second, .val (.long q4), .second, .val (.long q5), .second, .val (.int v1), .val (.int (1 : Int32)), .val (.int v3), .val (.ref b4), .val (.ref b7), .val (.ref b10), .val (.int v30)] [(.int (F5 (1 : Int32) v3 q2 q3 q4 q5)), (.int v30)])) (st31) ?_
      refine own_go (G := T31.setTop (mkF m 111 #[.val (.int p0), .val (.int p1), .val (.long q2), .second, .val (.long q3), .second, .val (.long q4), .second, .val (.long q5), .second, .val (.int v1), .val (.int (1 : Int32)), .val (.int v3), .val (.ref b4), .val (.ref b7), .val (.ref b10), .val (.int v30)] [])) (fun _ k => XS.icmpNo X31.here hx rfl (hb hby at_108) rfl (teq (own_fin01 hbit hv30 : v30 = (F5 (1 : Int32) v3 q2 q3 q4 q5))).2 k) ?_
      refine own_go (G := T31.setTop (mkF m 112 #[.val (.int p0), .val (.int p1), .val (.long q2), .second, .val (.long q3), .second, .val (.long q4), .second, .val (.long q5), .second, .val (.int v1), .val (.int (1 : Int32)), .val (.int v3), .val (.ref b4), .val (.ref b7), .val (.ref b10), .val (.int v30)] [(.int (1 : Int32))])) (fun _ k => XS.iconst X31.here hx rfl (hb hby at_111) k) ?_
      refine own_go (G := T31.setTop (mkF m 116 #[.val (.int p0), .val (.int p1), .val (.long q2), .second, .val (.long q3), .second, .val (.long q4), .second, .val (.long q5), .second, .val (.int v1), .val (.int (1 : Int32)), .val (.int v3), .val (.ref b4), .val (.ref b7), .val (.ref b10), .val (.int v30)] [(.int (1 : Int32))])) (fun _ k => XS.goto X31.here hx rfl (pc0 := 112) (pc' := 116) rfl (hb hby at_112) (by decide) (by decide) k) ?_
      exact own_ret1 X31 hx Bd.returns (hb hby at_116) Bd.notSynchronized (by decide) (by decide) ⟨rfl, N31⟩
  · rw [hww] at Fq11_words
    rcases own_bit hv2 with hsv | hsv
    · subst hsv
      refine own_go (G := T11.setTop (mkF m 67 #[.val (.int p0), .val (.int p1), .val (.long q2), .second, .val (.long q3), .second, .val (.long q4), .second, .val (.long q5), .second, .val (.int v1), .val (.int (0 : Int32)), .val (.int v3), .val (.ref b4), .val (.ref b7), .val (.ref b10), .unset] [(.ref b10)])) (fun _ k => XS.aload X11.here hx rfl (hb hby at_65) rfl rfl k) ?_
      refine own_go (G := T11.setTop (mkF m 68 #[.val (.int p0), .val (.int p1), .val (.long q2), .second, .val (.long q3), .second, .val (.long q4), .second, .val (.long q5), .second, .val (.int v1), .val (.int (0 : Int32)), .val (.int v3), .val (.ref b4), .val (.ref b7), .val (.ref b10), .unset] [(.int (0 : Int32)), (.ref b10)])) (fun _ k => XS.iconst X11.here hx rfl (hb hby at_67) k) ?_
      refine own_go (G := T11.setTop (mkF m 70 #[.val (.int p0), .val (.int p1), .val (.long q2), .second, .val (.long q3), .second, .val (.long q4), .second, .val (.long q5), .second, .val (.int v1), .val (.int (0 : Int32)), .val (.int v3), .val (.ref b4), .val (.ref b7), .val (.ref b10), .unset] [(.ref b4), (.int (0 : Int32)), (.ref b10)])) (fun _ k => XS.aload X11.here hx rfl (hb hby at_68) rfl rfl k) ?_
      obtain ⟨cq32, kq32, qk32a, qk32b, qk32c⟩ := isOf hZ rfl Eq11
      obtain ⟨_, _, ⟨T32, L32, k32, n32⟩, -, X32, ⟨Lc32, hQ32, l32, y32, z32⟩, st32⟩ := X11.virtualBack hx (y := (⟨"com/example/mave/mave/engine/StateGraph", "label", "(I[J)V"⟩ : MethodName)) (z := (⟨"com/example/mave/mave/engine/StateGraph", "label", "(I[J)V"⟩ : MethodName)) hown (mvT hZ (hw _ (List.mem_of_getElem? (i := 21) rfl))) (mvT hZ (hw _ (List.mem_of_getElem? (i := 22) rfl))) (notFace_of_selects (args := #[]) (mvT hZ (hw _ (List.mem_of_getElem? (i := 24) rfl)))) (mvT hZ (hw _ (List.mem_of_getElem? (i := 24) rfl))) (mvT hZ (hw _ (List.mem_of_getElem? (i := 23) rfl))) (by decide) (backOf (W := 0) (rm3 l Z a0 hw [] b10 (0 : Int32) b4 (2 : Int32) lb k4 kl [(.long q2), (.long q3)] [(.long (0 : Int64)), (.long (0 : Int64)), (.long (0 : Int64)), (.long (0 : Int64))] T11.heap n0 Z11 Fq11_words Fq11_labels V6_b4_c11 Vl4 gn_lb ne_b4_lb ne_b10_lb (by decide) (by decide) (by decide) (by decide) (by decide) (Nat.le_of_ble_eq_true rfl)) hZ (hw _ (List.mem_of_getElem? (i := 25) rfl)) (hw _ (List.mem_of_getElem? (i := 3) rfl)) (by decide) (by decide)) qk32a qk32c (g := (mkF m 70 #[.val (.int p0), .val (.int p1), .val (.long q2), .second, .val (.long q3), .second, .val (.long q4), .second, .val (.long q5), .second, .val (.int v1), .val (.int (0 : Int32)), .val (.int v3), .val (.ref b4), .val (.ref b7), .val (.ref b10), .unset] [(.ref b4), (.int (0 : Int32)), (.ref b10)])) rfl (by rw [hml]; rfl) (Steps.refl _) (argsL := [(.int (0 : Int32)), (.ref b4)]) (rest := []) (lenOf pd1 rfl) rfl (by show 2 * 0 + _ ≤ _; exact Nat.le_of_eq rfl) (hb hby at_70) (fun _ _ => ⟨rfl, rfl, (by decide : 7 + 0 ≤ _), (by decide : 4107 + 0 ≤ _)⟩)
      dsimp only [Pt.U, Pt.locs, Pt.cells, Pt.slots] at X32 l32 y32 z32 st32 hQ32
      subst l32 y32 z32
      obtain ⟨rfl, Nq32, Kq32, Vq32⟩ := hQ32
      have N32 := Fr.app N11 Nq32
      have V6_b4_c32 : Arv Z T32.heap b4 k4 .long (2 : Int32) [(.long q2), (.long q3)] (.long (0 : Int64)) := V6_b4_c11.keep Kq32 (ninS ne_b4_lb nin0)
      have V9_b7_c32 : Arv Z T32.heap b7 k7 .long (2 : Int32) [(.long q4), (.long q5)] (.long (0 : Int64)) := V9_b7_c11.keep Kq32 (ninS ne_b7_lb nin0)
      have Eq11_c32 : Exa Z T32.heap b10 "com/example/mave/mave/engine/StateGraph" := Eq11.keep Kq32
      have Fq11_labels_c32 : Fld Z T32.heap b10 "com/example/mave/mave/engine/StateGraph" "labels" "[J" (.ref lb) := Fq11_labels.keep Kq32 (ninS ne_b10_lb nin0)
      have Fq11_words_c32 : Fld Z T32.heap b10 "com/example/mave/mave/engine/StateGraph" "words" "I" (.int (2 : Int32)) := Fq11_words.keep Kq32 (ninS ne_b10_lb nin0)
      have Z32 : n0 ≤ T32.heap.size := Nat.le_trans Z11 Kq32.1
      have Vn32 : Arv Z T32.heap lb kl .long (1024 : Int32) [(.long q2), (.long q3), (.long (0 : Int64)), (.long (0 : Int64))] (.long (0 : Int64)) := Vq32
      refine own_go (G := T32.setTop (mkF m 73 #[.val (.int p0), .val (.int p1), .val (.long q2), .second, .val (.long q3), .second, .val (.long q4), .second, .val (.long q5), .second, .val (.int v1), .val (.int (0 : Int32)), .val (.int v3), .val (.ref b4), .val (.ref b7), .val (.ref b10), .unset] [])) (fun _ k => st32.trans k) ?_
      refine own_go (G := T32.setTop (mkF m 75 #[.val (.int p0), .val (.int p1), .val (.long q2), .second, .val (.long q3), .second, .val (.long q4), .second, .val (.long q5), .second, .val (.int v1), .val (.int (0 : Int32)), .val (.int v3), .val (.ref b4), .val (.ref b7), .val (.ref b10), .unset] [(.ref b10)])) (fun _ k => XS.aload X32.here hx rfl (hb hby at_73) rfl rfl k) ?_
      refine own_go (G := T32.setTop (mkF m 76 #[.val (.int p0), .val (.int p1), .val (.long q2), .second, .val (.long q3), .second, .val (.long q4), .second, .val (.long q5), .second, .val (.int v1), .val (.int (0 : Int32)), .val (.int v3), .val (.ref b4), .val (.ref b7), .val (.ref b10), .unset] [(.int (1 : Int32)), (.ref b10)])) (fun _ k => XS.iconst X32.here hx rfl (hb hby at_75) k) ?_
      refine own_go (G := T32.setTop (mkF m 78 #[.val (.int p0), .val (.int p1), .val (.long q2), .second, .val (.long q3), .second, .val (.long q4), .second, .val (.long q5), .second, .val (.int v1), .val (.int (0 : Int32)), .val (.int v3), .val (.ref b4), .val (.ref b7), .val (.ref b10), .unset] [(.ref b7), (.int (1 : Int32)), (.ref b10)])) (fun _ k => XS.aload X32.here hx rfl (hb hby at_76) rfl rfl k) ?_
      obtain ⟨cq33, kq33, qk33a, qk33b, qk33c⟩ := isOf hZ rfl Eq11_c32
      obtain ⟨_, _, ⟨T33, L33, k33, n33⟩, -, X33, ⟨Lc33, hQ33, l33, y33, z33⟩, st33⟩ := X32.virtualBack hx (y := (⟨"com/example/mave/mave/engine/StateGraph", "label", "(I[J)V"⟩ : MethodName)) (z := (⟨"com/example/mave/mave/engine/StateGraph", "label", "(I[J)V"⟩ : MethodName)) hown (mvT hZ (hw _ (List.mem_of_getElem? (i := 21) rfl))) (mvT hZ (hw _ (List.mem_of_getElem? (i := 22) rfl))) (notFace_of_selects (args := #[]) (mvT hZ (hw _ (List.mem_of_getElem? (i := 24) rfl)))) (mvT hZ (hw _ (List.mem_of_getElem? (i := 24) rfl))) (mvT hZ (hw _ (List.mem_of_getElem? (i := 23) rfl))) (by decide) (backOf (W := 0) (rm3 l Z a0 hw [] b10 (1 : Int32) b7 (2 : Int32) lb k7 kl [(.long q4), (.long q5)] [(.long q2), (.long q3), (.long (0 : Int64)), (.long (0 : Int64))] T32.heap n0 Z32 Fq11_words_c32 Fq11_labels_c32 V9_b7_c32 Vn32 gn_lb ne_b7_lb ne_b10_lb (by decide) (by decide) (by decide) (by decide) (by decide) (Nat.le_of_ble_eq_true rfl)) hZ (hw _ (List.mem_of_getElem? (i := 25) rfl)) (hw _ (List.mem_of_getElem? (i := 3) rfl)) (by decide) (by decide)) qk33a qk33c (g := (mkF m 78 #[.val (.int p0), .val (.int p1), .val (.long q2), .second, .val (.long q3), .second, .val (.long q4), .second, .val (.long q5), .second, .val (.int v1), .val (.int (0 : Int32)), .val (.int v3), .val (.ref b4), .val (.ref b7), .val (.ref b10), .unset] [(.ref b7), (.int (1 : Int32)), (.ref b10)])) rfl (by rw [hml]; rfl) (Steps.refl _) (argsL := [(.int (1 : Int32)), (.ref b7)]) (rest := []) (lenOf pd1 rfl) rfl (by show 2 * 0 + _ ≤ _; exact Nat.le_of_eq rfl) (hb hby at_78) (fun _ _ => ⟨rfl, rfl, (by decide : 7 + 0 ≤ _), (by decide : 4107 + 0 ≤ _)⟩)
      dsimp only [Pt.U, Pt.locs, Pt.cells, Pt.slots] at X33 l33 y33 z33 st33 hQ33
      subst l33 y33 z33
      obtain ⟨rfl, Nq33, Kq33, Vq33⟩ := hQ33
      have N33 := Fr.app N32 Nq33
      have V6_b4_c33 : Arv Z T33.heap b4 k4 .long (2 : Int32) [(.long q2), (.long q3)] (.long (0 : Int64)) := V6_b4_c32.keep Kq33 (ninS ne_b4_lb nin0)
      have V9_b7_c33 : Arv Z T33.heap b7 k7 .long (2 : Int32) [(.long q4), (.long q5)] (.long (0 : Int64)) := V9_b7_c32.keep Kq33 (ninS ne_b7_lb nin0)
      have Eq11_c33 : Exa Z T33.heap b10 "com/example/mave/mave/engine/StateGraph" := Eq11_c32.keep Kq33
      have Fq11_labels_c33 : Fld Z T33.heap b10 "com/example/mave/mave/engine/StateGraph" "labels" "[J" (.ref lb) := Fq11_labels_c32.keep Kq33 (ninS ne_b10_lb nin0)
      have Fq11_words_c33 : Fld Z T33.heap b10 "com/example/mave/mave/engine/StateGraph" "words" "I" (.int (2 : Int32)) := Fq11_words_c32.keep Kq33 (ninS ne_b10_lb nin0)
      have Z33 : n0 ≤ T33.heap.size := Nat.le_trans Z32 Kq33.1
      have Vn33 : Arv Z T33.heap lb kl .long (1024 : Int32) [(.long q2), (.long q3), (.long q4), (.long q5)] (.long (0 : Int64)) := Vq33
      refine own_go (G := T33.setTop (mkF m 81 #[.val (.int p0), .val (.int p1), .val (.long q2), .second, .val (.long q3), .second, .val (.long q4), .second, .val (.long q5), .second, .val (.int v1), .val (.int (0 : Int32)), .val (.int v3), .val (.ref b4), .val (.ref b7), .val (.ref b10), .unset] [])) (fun _ k => st33.trans k) ?_
      refine own_go (G := T33.setTop (mkF m 83 #[.val (.int p0), .val (.int p1), .val (.long q2), .second, .val (.long q3), .second, .val (.long q4), .second, .val (.long q5), .second, .val (.int v1), .val (.int (0 : Int32)), .val (.int v3), .val (.ref b4), .val (.ref b7), .val (.ref b10), .unset] [(.ref b10)])) (fun _ k => XS.aload X33.here hx rfl (hb hby at_81) rfl rfl k) ?_
      refine own_go (G := T33.setTop (mkF m 85 #[.val (.int p0), .val (.int p1), .val (.long q2), .second, .val (.long q3), .second, .val (.long q4), .second, .val (.long q5), .second, .val (.int v1), .val (.int (0 : Int32)), .val (.int v3), .val (.ref b4), .val (.ref b7), .val (.ref b10), .unset] [(.int (0 : Int32)), (.ref b10)])) (fun _ k => XS.iload X33.here hx rfl (hb hby at_83) rfl k) ?_
      refine own_go (G := T33.setTop (mkF m 87 #[.val (.int p0), .val (.int p1), .val (.long q2), .second, .val (.long q3), .second, .val (.long q4), .second, .val (.long q5), .second, .val (.int v1), .val (.int (0 : Int32)), .val (.int v3), .val (.ref b4), .val (.ref b7), .val (.ref b10), .unset] [(.int v3), (.int (0 : Int32)), (.ref b10)])) (fun _ k => XS.iload X33.here hx rfl (hb hby at_85) rfl k) ?_
      obtain ⟨cl, Ar, q_cl, S_cl, N_cl, Ha_cl, G_cl⟩ := id Vn33
      have hj : (((0 : Int32) * (2 : Int32)) + (v3 / (64 : Int32))) = (1 : Int32) := by rw [hbit]; decide
      have hin : ¬ ((((0 : Int32) * (2 : Int32)) + (v3 / (64 : Int32))) < 0 ∨ cl.slots.size ≤ ((((0 : Int32) * (2 : Int32)) + (v3 / (64 : Int32)))).toNatClampNeg) := inb_of S_cl (by rw [hj]; exact ⟨by decide, by decide⟩)
      have hat : cl.slots[((((0 : Int32) * (2 : Int32)) + (v3 / (64 : Int32)))).toNatClampNeg]? = some (.long q3) := Ha_cl.at hin (by rw [hj]; rfl)
      obtain ⟨cq34, kq34, qk34a, qk34b, qk34c⟩ := isOf hZ rfl Eq11_c33
      obtain ⟨_, _, ⟨T34, L34, k34, n34⟩, -, X34, ⟨Lc34, hQ34, l34, y34, z34⟩, st34⟩ := X33.virtualBack hx (y := (⟨"com/example/mave/mave/engine/StateGraph", "holds", "(II)Z"⟩ : MethodName)) (z := (⟨"com/example/mave/mave/engine/StateGraph", "holds", "(II)Z"⟩ : MethodName)) hown (mvT hZ (hw _ (List.mem_of_getElem? (i := 30) rfl))) (mvT hZ (hw _ (List.mem_of_getElem? (i := 31) rfl))) (notFace_of_selects (args := #[]) (mvT hZ (hw _ (List.mem_of_getElem? (i := 33) rfl)))) (mvT hZ (hw _ (List.mem_of_getElem? (i := 33) rfl))) (mvT hZ (hw _ (List.mem_of_getElem? (i := 32) rfl))) (by decide) (backOf (W := 0) (rm4 l Z a0 hw [] b10 (0 : Int32) v3 (2 : Int32) lb cl q3 T33.heap n0 Z33 Fq11_words_c33 Fq11_labels_c33 Ar hin hat) hZ (hw _ (List.mem_of_getElem? (i := 34) rfl)) (hw _ (List.mem_of_getElem? (i := 3) rfl)) (by decide) (by decide)) qk34a qk34c (g := (mkF m 87 #[.val (.int p0), .val (.int p1), .val (.long q2), .second, .val (.long q3), .second, .val (.long q4), .second, .val (.long q5), .second, .val (.int v1), .val (.int (0 : Int32)), .val (.int v3), .val (.ref b4), .val (.ref b7), .val (.ref b10), .unset] [(.int v3), (.int (0 : Int32)), (.ref b10)])) rfl (by rw [hml]; rfl) (Steps.refl _) (argsL := [(.int (0 : Int32)), (.int v3)]) (rest := []) (lenOf pd2 rfl) rfl (by show 2 * 0 + _ ≤ _; exact Nat.le_of_eq rfl) (hb hby at_87) (fun _ _ => ⟨rfl, rfl, (by decide : 7 + 0 ≤ _), (by decide : 4107 + 0 ≤ _)⟩)
      dsimp only [Pt.U, Pt.locs, Pt.cells, Pt.slots] at X34 l34 y34 z34 st34 hQ34
      subst l34 y34 z34
      obtain ⟨rfl, Nq34, e34⟩ := hQ34
      have N34 := Fr.app N33 Nq34
      refine own_go (G := T34.setTop (mkF m 90 #[.val (.int p0), .val (.int p1), .val (.long q2), .second, .val (.long q3), .second, .val (.long q4), .second, .val (.long q5), .second, .val (.int v1), .val (.int (0 : Int32)), .val (.int v3), .val (.ref b4), .val (.ref b7), .val (.ref b10), .unset] [(.int (F4 b10 (0 : Int32) v3 (2 : Int32) lb cl q3))])) (fun _ k => st34.trans k) ?_
      generalize hv35 : (F4 b10 (0 : Int32) v3 (2 : Int32) lb cl q3) = v35
      refine own_go (G := T34.setTop (mkF m 92 #[.val (.int p0), .val (.int p1), .val (.long q2), .second, .val (.long q3), .second, .val (.long q4), .second, .val (.long q5), .second, .val (.int v1), .val (.int (0 : Int32)), .val (.int v3), .val (.ref b4), .val (.ref b7), .val (.ref b10), .val (.int v35)] [])) (fun _ k => XS.istore X34.here hx rfl (hb hby at_90) rfl (l' := #[.val (.int p0), .val (.int p1), .val (.long q2), .second, .val (.long q3), .second, .val (.long q4), .second, .val (.long q5), .second, .val (.int v1), .val (.int (0 : Int32)), .val (.int v3), .val (.ref b4), .val (.ref b7), .val (.ref b10), .val (.int v35)]) rfl k) ?_
      refine own_go (G := T34.setTop (mkF m 94 #[.val (.int p0), .val (.int p1), .val (.long q2), .second, .val (.long q3), .second, .val (.long q4), .second, .val (.long q5), .second, .val (.int v1), .val (.int (0 : Int32)), .val (.int v3), .val (.ref b4), .val (.ref b7), .val (.ref b10), .val (.int v35)] [(.int v35)])) (fun _ k => XS.iload X34.here hx rfl (hb hby at_92) rfl k) ?_
      refine own_go (G := T34.setTop (mkF m 96 #[.val (.int p0), .val (.int p1), .val (.long q2), .second, .val (.long q3), .second, .val (.long q4), .second, .val (.long q5), .second, .val (.int v1), .val (.int (0 : Int32)), .val (.int v3), .val (.ref b4), .val (.ref b7), .val (.ref b10), .val (.int v35)] [(.int (0 : Int32)), (.int v35)])) (fun _ k => XS.iload X34.here hx rfl (hb hby at_94) rfl k) ?_
      refine own_go (G := T34.setTop (mkF m 98 #[.val (.int p0), .val (.int p1), .val (.long q2), .second, .val (.long q3), .second, .val (.long q4), .second, .val (.long q5), .second, .val (.int v1), .val (.int (0 : Int32)), .val (.int v3), .val (.ref b4), .val (.ref b7), .val (.ref b10), .val (.int v35)] [(.int v3), (.int (0 : Int32)), (.int v35)])) (fun _ k => XS.iload X34.here hx rfl (hb hby at_96) rfl k) ?_
      refine own_go (G := T34.setTop (mkF m 99 #[.val (.int p0), .val (.int p1), .val (.long q2), .second, .val (.long q3), .second, .val (.long q4), .second, .val (.long q5), .second, .val (.int v1), .val (.int (0 : Int32)), .val (.int v3), .val (.ref b4), .val (.ref b7), .val (.ref b10), .val (.int v35)] [(.long q2), (.int v3), (.int (0 : Int32)), (.int v35)])) (fun _ k => XS.lloadN X34.here hx rfl (hb hby at_98) rfl k) ?_
      refine own_go (G := T34.setTop (mkF m 101 #[.val (.int p0), .val (.int p1), .val (.long q2), .second, .val (.long q3), .second, .val (.long q4), .second, .val (.long q5), .second, .val (.int v1), .val (.int (0 : Int32)), .val (.int v3), .val (.ref b4), .val (.ref b7), .val (.ref b10), .val (.int v35)] [(.long q3), (.long q2), (.int v3), (.int (0 : Int32)), (.int v35)])) (fun _ k => XS.lload X34.here hx rfl (hb hby at_99) rfl k) ?_
      refine own_go (G := T34.setTop (mkF m 103 #[.val (.int p0), .val (.int p1), .val (.long q2), .second, .val (.long q3), .second, .val (.long q4), .second, .val (.long q5), .second, .val (.int v1), .val (.int (0 : Int32)), .val (.int v3), .val (.ref b4), .val (.ref b7), .val (.ref b10), .val (.int v35)] [(.long q4), (.long q3), (.long q2), (.int v3), (.int (0 : Int32)), (.int v35)])) (fun _ k => XS.lload X34.here hx rfl (hb hby at_101) rfl k) ?_
      refine own_go (G := T34.setTop (mkF m 105 #[.val (.int p0), .val (.int p1), .val (.long q2), .second, .val (.long q3), .second, .val (.long q4), .second, .val (.long q5), .second, .val (.int v1), .val (.int (0 : Int32)), .val (.int v3), .val (.ref b4), .val (.ref b7), .val (.ref b10), .val (.int v35)] [(.long q5), (.long q4), (.long q3), (.long q2), (.int v3), (.int (0 : Int32)), (.int v35)])) (fun _ k => XS.lload X34.here hx rfl (hb hby at_103) rfl k) ?_
      obtain ⟨_, _, ⟨T36, L36, k36, n36⟩, -, X36, ⟨Lc36, hQ36, l36, y36, z36⟩, st36⟩ := Jvm.LawKit.callS X34 hx (y := (⟨"com/example/mave/mave/engine/StateGraphHoldsPinLaw", "expected", "(IIJJJJ)Z"⟩ : MethodName)) hown (mvT hZ (hw _ (List.mem_of_getElem? (i := 35) rfl))) (mvT hZ (hw _ (List.mem_of_getElem? (i := 36) rfl))) (mvT hZ (hw _ (List.mem_of_getElem? (i := 37) rfl))) (mvT hZ (hw _ (List.mem_of_getElem? (i := 38) rfl))) (by decide) (backOf (W := 1) (rm5 l Z a0 hw [] (0 : Int32) v3 q2 q3 q4 q5 T33.heap n0 Z33) hZ (hw _ (List.mem_of_getElem? (i := 38) rfl)) (hw _ (List.mem_of_getElem? (i := 37) rfl)) (by decide) (by decide)) (g := (mkF m 105 #[.val (.int p0), .val (.int p1), .val (.long q2), .second, .val (.long q3), .second, .val (.long q4), .second, .val (.long q5), .second, .val (.int v1), .val (.int (0 : Int32)), .val (.int v3), .val (.ref b4), .val (.ref b7), .val (.ref b10), .val (.int v35)] [(.long q5), (.long q4), (.long q3), (.long q2), (.int v3), (.int (0 : Int32)), (.int v35)])) rfl (by rw [hml]; rfl) (argsL := [(.int (0 : Int32)), (.int v3), (.long q2), (.long q3), (.long q4), (.long q5)]) (rest := [(.int v35)]) (lenOf pd3 rfl) rfl (by show 2 * 0 + _ ≤ _; exact Nat.le_of_eq rfl) (hb hby at_105) (fun _ _ => ⟨rfl, e34, (by decide : 7 + 0 ≤ _), (by decide : 4107 + 0 ≤ _)⟩)
      dsimp only [Pt.U, Pt.locs, Pt.cells, Pt.slots] at X36 l36 y36 z36 st36 hQ36
      subst l36 y36 z36
      obtain ⟨rfl, Nq36, e36⟩ := hQ36
      have N36 := Fr.app N34 Nq36
      refine own_go (G := T36.setTop (mkF m 108 #[.val (.int p0), .val (.int p1), .val (.long q2), .second, .val (.long q3), .second, .val (.long q4), .second, .val (.long q5), .second, .val (.int v1), .val (.int (0 : Int32)), .val (.int v3), .val (.ref b4), .val (.ref b7), .val (.ref b10), .val (.int v35)] [(.int (F5 (0 : Int32) v3 q2 q3 q4 q5)), (.int v35)])) (st36) ?_
      refine own_go (G := T36.setTop (mkF m 111 #[.val (.int p0), .val (.int p1), .val (.long q2), .second, .val (.long q3), .second, .val (.long q4), .second, .val (.long q5), .second, .val (.int v1), .val (.int (0 : Int32)), .val (.int v3), .val (.ref b4), .val (.ref b7), .val (.ref b10), .val (.int v35)] [])) (fun _ k => XS.icmpNo X36.here hx rfl (hb hby at_108) rfl (teq (own_fin10 hbit hv35 : v35 = (F5 (0 : Int32) v3 q2 q3 q4 q5))).2 k) ?_
      refine own_go (G := T36.setTop (mkF m 112 #[.val (.int p0), .val (.int p1), .val (.long q2), .second, .val (.long q3), .second, .val (.long q4), .second, .val (.long q5), .second, .val (.int v1), .val (.int (0 : Int32)), .val (.int v3), .val (.ref b4), .val (.ref b7), .val (.ref b10), .val (.int v35)] [(.int (1 : Int32))])) (fun _ k => XS.iconst X36.here hx rfl (hb hby at_111) k) ?_
      refine own_go (G := T36.setTop (mkF m 116 #[.val (.int p0), .val (.int p1), .val (.long q2), .second, .val (.long q3), .second, .val (.long q4), .second, .val (.long q5), .second, .val (.int v1), .val (.int (0 : Int32)), .val (.int v3), .val (.ref b4), .val (.ref b7), .val (.ref b10), .val (.int v35)] [(.int (1 : Int32))])) (fun _ k => XS.goto X36.here hx rfl (pc0 := 112) (pc' := 116) rfl (hb hby at_112) (by decide) (by decide) k) ?_
      exact own_ret1 X36 hx Bd.returns (hb hby at_116) Bd.notSynchronized (by decide) (by decide) ⟨rfl, N36⟩
    · subst hsv
      refine own_go (G := T11.setTop (mkF m 67 #[.val (.int p0), .val (.int p1), .val (.long q2), .second, .val (.long q3), .second, .val (.long q4), .second, .val (.long q5), .second, .val (.int v1), .val (.int (1 : Int32)), .val (.int v3), .val (.ref b4), .val (.ref b7), .val (.ref b10), .unset] [(.ref b10)])) (fun _ k => XS.aload X11.here hx rfl (hb hby at_65) rfl rfl k) ?_
      refine own_go (G := T11.setTop (mkF m 68 #[.val (.int p0), .val (.int p1), .val (.long q2), .second, .val (.long q3), .second, .val (.long q4), .second, .val (.long q5), .second, .val (.int v1), .val (.int (1 : Int32)), .val (.int v3), .val (.ref b4), .val (.ref b7), .val (.ref b10), .unset] [(.int (0 : Int32)), (.ref b10)])) (fun _ k => XS.iconst X11.here hx rfl (hb hby at_67) k) ?_
      refine own_go (G := T11.setTop (mkF m 70 #[.val (.int p0), .val (.int p1), .val (.long q2), .second, .val (.long q3), .second, .val (.long q4), .second, .val (.long q5), .second, .val (.int v1), .val (.int (1 : Int32)), .val (.int v3), .val (.ref b4), .val (.ref b7), .val (.ref b10), .unset] [(.ref b4), (.int (0 : Int32)), (.ref b10)])) (fun _ k => XS.aload X11.here hx rfl (hb hby at_68) rfl rfl k) ?_
      obtain ⟨cq37, kq37, qk37a, qk37b, qk37c⟩ := isOf hZ rfl Eq11
      obtain ⟨_, _, ⟨T37, L37, k37, n37⟩, -, X37, ⟨Lc37, hQ37, l37, y37, z37⟩, st37⟩ := X11.virtualBack hx (y := (⟨"com/example/mave/mave/engine/StateGraph", "label", "(I[J)V"⟩ : MethodName)) (z := (⟨"com/example/mave/mave/engine/StateGraph", "label", "(I[J)V"⟩ : MethodName)) hown (mvT hZ (hw _ (List.mem_of_getElem? (i := 21) rfl))) (mvT hZ (hw _ (List.mem_of_getElem? (i := 22) rfl))) (notFace_of_selects (args := #[]) (mvT hZ (hw _ (List.mem_of_getElem? (i := 24) rfl)))) (mvT hZ (hw _ (List.mem_of_getElem? (i := 24) rfl))) (mvT hZ (hw _ (List.mem_of_getElem? (i := 23) rfl))) (by decide) (backOf (W := 0) (rm3 l Z a0 hw [] b10 (0 : Int32) b4 (2 : Int32) lb k4 kl [(.long q2), (.long q3)] [(.long (0 : Int64)), (.long (0 : Int64)), (.long (0 : Int64)), (.long (0 : Int64))] T11.heap n0 Z11 Fq11_words Fq11_labels V6_b4_c11 Vl4 gn_lb ne_b4_lb ne_b10_lb (by decide) (by decide) (by decide) (by decide) (by decide) (Nat.le_of_ble_eq_true rfl)) hZ (hw _ (List.mem_of_getElem? (i := 25) rfl)) (hw _ (List.mem_of_getElem? (i := 3) rfl)) (by decide) (by decide)) qk37a qk37c (g := (mkF m 70 #[.val (.int p0), .val (.int p1), .val (.long q2), .second, .val (.long q3), .second, .val (.long q4), .second, .val (.long q5), .second, .val (.int v1), .val (.int (1 : Int32)), .val (.int v3), .val (.ref b4), .val (.ref b7), .val (.ref b10), .unset] [(.ref b4), (.int (0 : Int32)), (.ref b10)])) rfl (by rw [hml]; rfl) (Steps.refl _) (argsL := [(.int (0 : Int32)), (.ref b4)]) (rest := []) (lenOf pd1 rfl) rfl (by show 2 * 0 + _ ≤ _; exact Nat.le_of_eq rfl) (hb hby at_70) (fun _ _ => ⟨rfl, rfl, (by decide : 7 + 0 ≤ _), (by decide : 4107 + 0 ≤ _)⟩)
      dsimp only [Pt.U, Pt.locs, Pt.cells, Pt.slots] at X37 l37 y37 z37 st37 hQ37
      subst l37 y37 z37
      obtain ⟨rfl, Nq37, Kq37, Vq37⟩ := hQ37
      have N37 := Fr.app N11 Nq37
      have V6_b4_c37 : Arv Z T37.heap b4 k4 .long (2 : Int32) [(.long q2), (.long q3)] (.long (0 : Int64)) := V6_b4_c11.keep Kq37 (ninS ne_b4_lb nin0)
      have V9_b7_c37 : Arv Z T37.heap b7 k7 .long (2 : Int32) [(.long q4), (.long q5)] (.long (0 : Int64)) := V9_b7_c11.keep Kq37 (ninS ne_b7_lb nin0)
      have Eq11_c37 : Exa Z T37.heap b10 "com/example/mave/mave/engine/StateGraph" := Eq11.keep Kq37
      have Fq11_labels_c37 : Fld Z T37.heap b10 "com/example/mave/mave/engine/StateGraph" "labels" "[J" (.ref lb) := Fq11_labels.keep Kq37 (ninS ne_b10_lb nin0)
      have Fq11_words_c37 : Fld Z T37.heap b10 "com/example/mave/mave/engine/StateGraph" "words" "I" (.int (2 : Int32)) := Fq11_words.keep Kq37 (ninS ne_b10_lb nin0)
      have Z37 : n0 ≤ T37.heap.size := Nat.le_trans Z11 Kq37.1
      have Vn37 : Arv Z T37.heap lb kl .long (1024 : Int32) [(.long q2), (.long q3), (.long (0 : Int64)), (.long (0 : Int64))] (.long (0 : Int64)) := Vq37
      refine own_go (G := T37.setTop (mkF m 73 #[.val (.int p0), .val (.int p1), .val (.long q2), .second, .val (.long q3), .second, .val (.long q4), .second, .val (.long q5), .second, .val (.int v1), .val (.int (1 : Int32)), .val (.int v3), .val (.ref b4), .val (.ref b7), .val (.ref b10), .unset] [])) (fun _ k => st37.trans k) ?_
      refine own_go (G := T37.setTop (mkF m 75 #[.val (.int p0), .val (.int p1), .val (.long q2), .second, .val (.long q3), .second, .val (.long q4), .second, .val (.long q5), .second, .val (.int v1), .val (.int (1 : Int32)), .val (.int v3), .val (.ref b4), .val (.ref b7), .val (.ref b10), .unset] [(.ref b10)])) (fun _ k => XS.aload X37.here hx rfl (hb hby at_73) rfl rfl k) ?_
      refine own_go (G := T37.setTop (mkF m 76 #[.val (.int p0), .val (.int p1), .val (.long q2), .second, .val (.long q3), .second, .val (.long q4), .second, .val (.long q5), .second, .val (.int v1), .val (.int (1 : Int32)), .val (.int v3), .val (.ref b4), .val (.ref b7), .val (.ref b10), .unset] [(.int (1 : Int32)), (.ref b10)])) (fun _ k => XS.iconst X37.here hx rfl (hb hby at_75) k) ?_
      refine own_go (G := T37.setTop (mkF m 78 #[.val (.int p0), .val (.int p1), .val (.long q2), .second, .val (.long q3), .second, .val (.long q4), .second, .val (.long q5), .second, .val (.int v1), .val (.int (1 : Int32)), .val (.int v3), .val (.ref b4), .val (.ref b7), .val (.ref b10), .unset] [(.ref b7), (.int (1 : Int32)), (.ref b10)])) (fun _ k => XS.aload X37.here hx rfl (hb hby at_76) rfl rfl k) ?_
      obtain ⟨cq38, kq38, qk38a, qk38b, qk38c⟩ := isOf hZ rfl Eq11_c37
      obtain ⟨_, _, ⟨T38, L38, k38, n38⟩, -, X38, ⟨Lc38, hQ38, l38, y38, z38⟩, st38⟩ := X37.virtualBack hx (y := (⟨"com/example/mave/mave/engine/StateGraph", "label", "(I[J)V"⟩ : MethodName)) (z := (⟨"com/example/mave/mave/engine/StateGraph", "label", "(I[J)V"⟩ : MethodName)) hown (mvT hZ (hw _ (List.mem_of_getElem? (i := 21) rfl))) (mvT hZ (hw _ (List.mem_of_getElem? (i := 22) rfl))) (notFace_of_selects (args := #[]) (mvT hZ (hw _ (List.mem_of_getElem? (i := 24) rfl)))) (mvT hZ (hw _ (List.mem_of_getElem? (i := 24) rfl))) (mvT hZ (hw _ (List.mem_of_getElem? (i := 23) rfl))) (by decide) (backOf (W := 0) (rm3 l Z a0 hw [] b10 (1 : Int32) b7 (2 : Int32) lb k7 kl [(.long q4), (.long q5)] [(.long q2), (.long q3), (.long (0 : Int64)), (.long (0 : Int64))] T37.heap n0 Z37 Fq11_words_c37 Fq11_labels_c37 V9_b7_c37 Vn37 gn_lb ne_b7_lb ne_b10_lb (by decide) (by decide) (by decide) (by decide) (by decide) (Nat.le_of_ble_eq_true rfl)) hZ (hw _ (List.mem_of_getElem? (i := 25) rfl)) (hw _ (List.mem_of_getElem? (i := 3) rfl)) (by decide) (by decide)) qk38a qk38c (g := (mkF m 78 #[.val (.int p0), .val (.int p1), .val (.long q2), .second, .val (.long q3), .second, .val (.long q4), .second, .val (.long q5), .second, .val (.int v1), .val (.int (1 : Int32)), .val (.int v3), .val (.ref b4), .val (.ref b7), .val (.ref b10), .unset] [(.ref b7), (.int (1 : Int32)), (.ref b10)])) rfl (by rw [hml]; rfl) (Steps.refl _) (argsL := [(.int (1 : Int32)), (.ref b7)]) (rest := []) (lenOf pd1 rfl) rfl (by show 2 * 0 + _ ≤ _; exact Nat.le_of_eq rfl) (hb hby at_78) (fun _ _ => ⟨rfl, rfl, (by decide : 7 + 0 ≤ _), (by decide : 4107 + 0 ≤ _)⟩)
      dsimp only [Pt.U, Pt.locs, Pt.cells, Pt.slots] at X38 l38 y38 z38 st38 hQ38
      subst l38 y38 z38
      obtain ⟨rfl, Nq38, Kq38, Vq38⟩ := hQ38
      have N38 := Fr.app N37 Nq38
      have V6_b4_c38 : Arv Z T38.heap b4 k4 .long (2 : Int32) [(.long q2), (.long q3)] (.long (0 : Int64)) := V6_b4_c37.keep Kq38 (ninS ne_b4_lb nin0)
      have V9_b7_c38 : Arv Z T38.heap b7 k7 .long (2 : Int32) [(.long q4), (.long q5)] (.long (0 : Int64)) := V9_b7_c37.keep Kq38 (ninS ne_b7_lb nin0)
      have Eq11_c38 : Exa Z T38.heap b10 "com/example/mave/mave/engine/StateGraph" := Eq11_c37.keep Kq38
      have Fq11_labels_c38 : Fld Z T38.heap b10 "com/example/mave/mave/engine/StateGraph" "labels" "[J" (.ref lb) := Fq11_labels_c37.keep Kq38 (ninS ne_b10_lb nin0)
      have Fq11_words_c38 : Fld Z T38.heap b10 "com/example/mave/mave/engine/StateGraph" "words" "I" (.int (2 : Int32)) := Fq11_words_c37.keep Kq38 (ninS ne_b10_lb nin0)
      have Z38 : n0 ≤ T38.heap.size := Nat.le_trans Z37 Kq38.1
      have Vn38 : Arv Z T38.heap lb kl .long (1024 : Int32) [(.long q2), (.long q3), (.long q4), (.long q5)] (.long (0 : Int64)) := Vq38
      refine own_go (G := T38.setTop (mkF m 81 #[.val (.int p0), .val (.int p1), .val (.long q2), .second, .val (.long q3), .second, .val (.long q4), .second, .val (.long q5), .second, .val (.int v1), .val (.int (1 : Int32)), .val (.int v3), .val (.ref b4), .val (.ref b7), .val (.ref b10), .unset] [])) (fun _ k => st38.trans k) ?_
      refine own_go (G := T38.setTop (mkF m 83 #[.val (.int p0), .val (.int p1), .val (.long q2), .second, .val (.long q3), .second, .val (.long q4), .second, .val (.long q5), .second, .val (.int v1), .val (.int (1 : Int32)), .val (.int v3), .val (.ref b4), .val (.ref b7), .val (.ref b10), .unset] [(.ref b10)])) (fun _ k => XS.aload X38.here hx rfl (hb hby at_81) rfl rfl k) ?_
      refine own_go (G := T38.setTop (mkF m 85 #[.val (.int p0), .val (.int p1), .val (.long q2), .second, .val (.long q3), .second, .val (.long q4), .second, .val (.long q5), .second, .val (.int v1), .val (.int (1 : Int32)), .val (.int v3), .val (.ref b4), .val (.ref b7), .val (.ref b10), .unset] [(.int (1 : Int32)), (.ref b10)])) (fun _ k => XS.iload X38.here hx rfl (hb hby at_83) rfl k) ?_
      refine own_go (G := T38.setTop (mkF m 87 #[.val (.int p0), .val (.int p1), .val (.long q2), .second, .val (.long q3), .second, .val (.long q4), .second, .val (.long q5), .second, .val (.int v1), .val (.int (1 : Int32)), .val (.int v3), .val (.ref b4), .val (.ref b7), .val (.ref b10), .unset] [(.int v3), (.int (1 : Int32)), (.ref b10)])) (fun _ k => XS.iload X38.here hx rfl (hb hby at_85) rfl k) ?_
      obtain ⟨cl, Ar, q_cl, S_cl, N_cl, Ha_cl, G_cl⟩ := id Vn38
      have hj : (((1 : Int32) * (2 : Int32)) + (v3 / (64 : Int32))) = (3 : Int32) := by rw [hbit]; decide
      have hin : ¬ ((((1 : Int32) * (2 : Int32)) + (v3 / (64 : Int32))) < 0 ∨ cl.slots.size ≤ ((((1 : Int32) * (2 : Int32)) + (v3 / (64 : Int32)))).toNatClampNeg) := inb_of S_cl (by rw [hj]; exact ⟨by decide, by decide⟩)
      have hat : cl.slots[((((1 : Int32) * (2 : Int32)) + (v3 / (64 : Int32)))).toNatClampNeg]? = some (.long q5) := Ha_cl.at hin (by rw [hj]; rfl)
      obtain ⟨cq39, kq39, qk39a, qk39b, qk39c⟩ := isOf hZ rfl Eq11_c38
      obtain ⟨_, _, ⟨T39, L39, k39, n39⟩, -, X39, ⟨Lc39, hQ39, l39, y39, z39⟩, st39⟩ := X38.virtualBack hx (y := (⟨"com/example/mave/mave/engine/StateGraph", "holds", "(II)Z"⟩ : MethodName)) (z := (⟨"com/example/mave/mave/engine/StateGraph", "holds", "(II)Z"⟩ : MethodName)) hown (mvT hZ (hw _ (List.mem_of_getElem? (i := 30) rfl))) (mvT hZ (hw _ (List.mem_of_getElem? (i := 31) rfl))) (notFace_of_selects (args := #[]) (mvT hZ (hw _ (List.mem_of_getElem? (i := 33) rfl)))) (mvT hZ (hw _ (List.mem_of_getElem? (i := 33) rfl))) (mvT hZ (hw _ (List.mem_of_getElem? (i := 32) rfl))) (by decide) (backOf (W := 0) (rm4 l Z a0 hw [] b10 (1 : Int32) v3 (2 : Int32) lb cl q5 T38.heap n0 Z38 Fq11_words_c38 Fq11_labels_c38 Ar hin hat) hZ (hw _ (List.mem_of_getElem? (i := 34) rfl)) (hw _ (List.mem_of_getElem? (i := 3) rfl)) (by decide) (by decide)) qk39a qk39c (g := (mkF m 87 #[.val (.int p0), .val (.int p1), .val (.long q2), .second, .val (.long q3), .second, .val (.long q4), .second, .val (.long q5), .second, .val (.int v1), .val (.int (1 : Int32)), .val (.int v3), .val (.ref b4), .val (.ref b7), .val (.ref b10), .unset] [(.int v3), (.int (1 : Int32)), (.ref b10)])) rfl (by rw [hml]; rfl) (Steps.refl _) (argsL := [(.int (1 : Int32)), (.int v3)]) (rest := []) (lenOf pd2 rfl) rfl (by show 2 * 0 + _ ≤ _; exact Nat.le_of_eq rfl) (hb hby at_87) (fun _ _ => ⟨rfl, rfl, (by decide : 7 + 0 ≤ _), (by decide : 4107 + 0 ≤ _)⟩)
      dsimp only [Pt.U, Pt.locs, Pt.cells, Pt.slots] at X39 l39 y39 z39 st39 hQ39
      subst l39 y39 z39
      obtain ⟨rfl, Nq39, e39⟩ := hQ39
      have N39 := Fr.app N38 Nq39
      refine own_go (G := T39.setTop (mkF m 90 #[.val (.int p0), .val (.int p1), .val (.long q2), .second, .val (.long q3), .second, .val (.long q4), .second, .val (.long q5), .second, .val (.int v1), .val (.int (1 : Int32)), .val (.int v3), .val (.ref b4), .val (.ref b7), .val (.ref b10), .unset] [(.int (F4 b10 (1 : Int32) v3 (2 : Int32) lb cl q5))])) (fun _ k => st39.trans k) ?_
      generalize hv40 : (F4 b10 (1 : Int32) v3 (2 : Int32) lb cl q5) = v40
      refine own_go (G := T39.setTop (mkF m 92 #[.val (.int p0), .val (.int p1), .val (.long q2), .second, .val (.long q3), .second, .val (.long q4), .second, .val (.long q5), .second, .val (.int v1), .val (.int (1 : Int32)), .val (.int v3), .val (.ref b4), .val (.ref b7), .val (.ref b10), .val (.int v40)] [])) (fun _ k => XS.istore X39.here hx rfl (hb hby at_90) rfl (l' := #[.val (.int p0), .val (.int p1), .val (.long q2), .second, .val (.long q3), .second, .val (.long q4), .second, .val (.long q5), .second, .val (.int v1), .val (.int (1 : Int32)), .val (.int v3), .val (.ref b4), .val (.ref b7), .val (.ref b10), .val (.int v40)]) rfl k) ?_
      refine own_go (G := T39.setTop (mkF m 94 #[.val (.int p0), .val (.int p1), .val (.long q2), .second, .val (.long q3), .second, .val (.long q4), .second, .val (.long q5), .second, .val (.int v1), .val (.int (1 : Int32)), .val (.int v3), .val (.ref b4), .val (.ref b7), .val (.ref b10), .val (.int v40)] [(.int v40)])) (fun _ k => XS.iload X39.here hx rfl (hb hby at_92) rfl k) ?_
      refine own_go (G := T39.setTop (mkF m 96 #[.val (.int p0), .val (.int p1), .val (.long q2), .second, .val (.long q3), .second, .val (.long q4), .second, .val (.long q5), .second, .val (.int v1), .val (.int (1 : Int32)), .val (.int v3), .val (.ref b4), .val (.ref b7), .val (.ref b10), .val (.int v40)] [(.int (1 : Int32)), (.int v40)])) (fun _ k => XS.iload X39.here hx rfl (hb hby at_94) rfl k) ?_
      refine own_go (G := T39.setTop (mkF m 98 #[.val (.int p0), .val (.int p1), .val (.long q2), .second, .val (.long q3), .second, .val (.long q4), .second, .val (.long q5), .second, .val (.int v1), .val (.int (1 : Int32)), .val (.int v3), .val (.ref b4), .val (.ref b7), .val (.ref b10), .val (.int v40)] [(.int v3), (.int (1 : Int32)), (.int v40)])) (fun _ k => XS.iload X39.here hx rfl (hb hby at_96) rfl k) ?_
      refine own_go (G := T39.setTop (mkF m 99 #[.val (.int p0), .val (.int p1), .val (.long q2), .second, .val (.long q3), .second, .val (.long q4), .second, .val (.long q5), .second, .val (.int v1), .val (.int (1 : Int32)), .val (.int v3), .val (.ref b4), .val (.ref b7), .val (.ref b10), .val (.int v40)] [(.long q2), (.int v3), (.int (1 : Int32)), (.int v40)])) (fun _ k => XS.lloadN X39.here hx rfl (hb hby at_98) rfl k) ?_
      refine own_go (G := T39.setTop (mkF m 101 #[.val (.int p0), .val (.int p1), .val (.long q2), .second, .val (.long q3), .second, .val (.long q4), .second, .val (.long q5), .second, .val (.int v1), .val (.int (1 : Int32)), .val (.int v3), .val (.ref b4), .val (.ref b7), .val (.ref b10), .val (.int v40)] [(.long q3), (.long q2), (.int v3), (.int (1 : Int32)), (.int v40)])) (fun _ k => XS.lload X39.here hx rfl (hb hby at_99) rfl k) ?_
      refine own_go (G := T39.setTop (mkF m 103 #[.val (.int p0), .val (.int p1), .val (.long q2), .second, .val (.long q3), .second, .val (.long q4), .second, .val (.long q5), .second, .val (.int v1), .val (.int (1 : Int32)), .val (.int v3), .val (.ref b4), .val (.ref b7), .val (.ref b10), .val (.int v40)] [(.long q4), (.long q3), (.long q2), (.int v3), (.int (1 : Int32)), (.int v40)])) (fun _ k => XS.lload X39.here hx rfl (hb hby at_101) rfl k) ?_
      refine own_go (G := T39.setTop (mkF m 105 #[.val (.int p0), .val (.int p1), .val (.long q2), .second, .val (.long q3), .second, .val (.long q4), .second, .val (.long q5), .second, .val (.int v1), .val (.int (1 : Int32)), .val (.int v3), .val (.ref b4), .val (.ref b7), .val (.ref b10), .val (.int v40)] [(.long q5), (.long q4), (.long q3), (.long q2), (.int v3), (.int (1 : Int32)), (.int v40)])) (fun _ k => XS.lload X39.here hx rfl (hb hby at_103) rfl k) ?_
      obtain ⟨_, _, ⟨T41, L41, k41, n41⟩, -, X41, ⟨Lc41, hQ41, l41, y41, z41⟩, st41⟩ := Jvm.LawKit.callS X39 hx (y := (⟨"com/example/mave/mave/engine/StateGraphHoldsPinLaw", "expected", "(IIJJJJ)Z"⟩ : MethodName)) hown (mvT hZ (hw _ (List.mem_of_getElem? (i := 35) rfl))) (mvT hZ (hw _ (List.mem_of_getElem? (i := 36) rfl))) (mvT hZ (hw _ (List.mem_of_getElem? (i := 37) rfl))) (mvT hZ (hw _ (List.mem_of_getElem? (i := 38) rfl))) (by decide) (backOf (W := 1) (rm5 l Z a0 hw [] (1 : Int32) v3 q2 q3 q4 q5 T38.heap n0 Z38) hZ (hw _ (List.mem_of_getElem? (i := 38) rfl)) (hw _ (List.mem_of_getElem? (i := 37) rfl)) (by decide) (by decide)) (g := (mkF m 105 #[.val (.int p0), .val (.int p1), .val (.long q2), .second, .val (.long q3), .second, .val (.long q4), .second, .val (.long q5), .second, .val (.int v1), .val (.int (1 : Int32)), .val (.int v3), .val (.ref b4), .val (.ref b7), .val (.ref b10), .val (.int v40)] [(.long q5), (.long q4), (.long q3), (.long q2), (.int v3), (.int (1 : Int32)), (.int v40)])) rfl (by rw [hml]; rfl) (argsL := [(.int (1 : Int32)), (.int v3), (.long q2), (.long q3), (.long q4), (.long q5)]) (rest := [(.int v40)]) (lenOf pd3 rfl) rfl (by show 2 * 0 + _ ≤ _; exact Nat.le_of_eq rfl) (hb hby at_105) (fun _ _ => ⟨rfl, e39, (by decide : 7 + 0 ≤ _), (by decide : 4107 + 0 ≤ _)⟩)
      dsimp only [Pt.U, Pt.locs, Pt.cells, Pt.slots] at X41 l41 y41 z41 st41 hQ41
      subst l41 y41 z41
      obtain ⟨rfl, Nq41, e41⟩ := hQ41
      have N41 := Fr.app N39 Nq41
      refine own_go (G := T41.setTop (mkF m 108 #[.val (.int p0), .val (.int p1), .val (.long q2), .second, .val (.long q3), .second, .val (.long q4), .second, .val (.long q5), .second, .val (.int v1), .val (.int (1 : Int32)), .val (.int v3), .val (.ref b4), .val (.ref b7), .val (.ref b10), .val (.int v40)] [(.int (F5 (1 : Int32) v3 q2 q3 q4 q5)), (.int v40)])) (st41) ?_
      refine own_go (G := T41.setTop (mkF m 111 #[.val (.int p0), .val (.int p1), .val (.long q2), .second, .val (.long q3), .second, .val (.long q4), .second, .val (.long q5), .second, .val (.int v1), .val (.int (1 : Int32)), .val (.int v3), .val (.ref b4), .val (.ref b7), .val (.ref b10), .val (.int v40)] [])) (fun _ k => XS.icmpNo X41.here hx rfl (hb hby at_108) rfl (teq (own_fin11 hbit hv40 : v40 = (F5 (1 : Int32) v3 q2 q3 q4 q5))).2 k) ?_
      refine own_go (G := T41.setTop (mkF m 112 #[.val (.int p0), .val (.int p1), .val (.long q2), .second, .val (.long q3), .second, .val (.long q4), .second, .val (.long q5), .second, .val (.int v1), .val (.int (1 : Int32)), .val (.int v3), .val (.ref b4), .val (.ref b7), .val (.ref b10), .val (.int v40)] [(.int (1 : Int32))])) (fun _ k => XS.iconst X41.here hx rfl (hb hby at_111) k) ?_
      refine own_go (G := T41.setTop (mkF m 116 #[.val (.int p0), .val (.int p1), .val (.long q2), .second, .val (.long q3), .second, .val (.long q4), .second, .val (.long q5), .second, .val (.int v1), .val (.int (1 : Int32)), .val (.int v3), .val (.ref b4), .val (.ref b7), .val (.ref b10), .val (.int v40)] [(.int (1 : Int32))])) (fun _ k => XS.goto X41.here hx rfl (pc0 := 112) (pc' := 116) rfl (hb hby at_112) (by decide) (by decide) k) ?_
      exact own_ret1 X41 hx Bd.returns (hb hby at_116) Bd.notSynchronized (by decide) (by decide) ⟨rfl, N41⟩
set_option maxRecDepth 65536 in
set_option maxHeartbeats 40000000 in
theorem comes_1 {Post : Tables → Env → Array Value → State → Outcome → State → Prop} (hpost : ∀ tb e args s v u, (limb_1_1.after args s (.returned v) u = true ∧ limb_1_2.after args s (.returned v) u = true ∧ True) → FrameEnd s (.returned v) u (Jvm.fieldLocs frame_1_writes args s ++ Jvm.arrayLocs frame_1_arrays args s ++ Jvm.staticLocs frame_1_statics s) 24 8320 → Post tb e args s (.returned v) u) :
    ArmFor flags0 classFile x code maxLocals ret World_1 tables_1 room_1 Calls_1 rest_1 Pre_1 Post := by
  intro l hfl _ _ p e ha hc hk s m args below hf hA hF happ hP
  obtain ⟨hcalls, hrest, hpre⟩ := hP
  obtain ⟨-, -, -, hnamed, -, -, -, hat⟩ := (Spec.applies_iff hf).mp happ
  obtain ⟨hg, hn⟩ := and_e (Cond.before_iff.mp (show (Jvm.Cond.and given_1 narrow_1).before args s = true from hpre))
  obtain ⟨gc, g0⟩ := and_e hg
  obtain ⟨ga0, g1⟩ := and_e g0
  obtain ⟨ga1, g2⟩ := and_e g1
  obtain ⟨ga2, g3⟩ := and_e g2
  obtain ⟨ga3, g4⟩ := and_e g3
  obtain ⟨ga4, g5⟩ := and_e g4
  obtain ⟨w0, w1, w2, w3, w4, w5, rfl⟩ : ∃ w0 w1 w2 w3 w4 w5 : Value, args = #[w0, w1, w2, w3, w4, w5] := by
    have hs : args.size = 6 := by simpa [Cond.value, given_1] using gc
    obtain ⟨L⟩ := args
    match L, hs with
    | [w0, w1, w2, w3, w4, w5], _ => exact ⟨w0, w1, w2, w3, w4, w5, rfl⟩
  have hw := fun d (hd : d ∈ tables_1) => atoms_spec (ws := Jvm.Cond.code x code maxLocals ret :: tables_1) hat d (List.mem_cons_of_mem _ hd)
  obtain ⟨i0, ei0⟩ := is_v ga0
  obtain rfl : w0 = (.int i0) := Option.some.inj ei0
  obtain ⟨i1, ei1⟩ := is_v ga1
  obtain rfl : w1 = (.int i1) := Option.some.inj ei1
  obtain ⟨i2, ei2⟩ := isL_v ga2
  obtain rfl : w2 = (.long i2) := Option.some.inj ei2
  obtain ⟨i3, ei3⟩ := isL_v ga3
  obtain rfl : w3 = (.long i3) := Option.some.inj ei3
  obtain ⟨i4, ei4⟩ := isL_v ga4
  obtain rfl : w4 = (.long i4) := Option.some.inj ei4
  obtain ⟨i5, ei5⟩ := isL_v g5
  obtain rfl : w5 = (.long i5) := Option.some.inj ei5
  obtain ⟨n, o, h1, h2, h3, _, L, rfl, ⟨rfl, N⟩, hq⟩ := rm0 l s _ hw tables_1 i0 i1 i2 i3 i4 i5 s.heap s.heap.size (Nat.le_refl _) p e ha hc hk s m _ below hf ((Spec.applies_iff_loose hf).mp happ).1 ⟨rfl, State.Warmed39.refl s, rfl⟩ trivial
  refine ⟨n, _, h1, h2, h3, hpost _ _ _ _ _ _ ⟨Cond.after_iff.mpr rfl, Cond.after_iff.mpr (eq_i res_at (Term.int_eval (1)) rfl), trivial⟩ ⟨hq.1, hq.2.1, (hq.2.2.sift fun y hy => Or.inr (N y hy)).mono (by decide) (by decide)⟩⟩
theorem main_1_1 : Claimed_1_1 := comes_1 fun _ _ _ _ _ _ h hF => ⟨h.1, hF⟩
theorem main_1_2 : Claimed_1_2 := comes_1 fun _ _ _ _ _ _ h hF => ⟨h.2.1, hF⟩
end Jvm.Pilot.@@N@@
namespace Jvm.Pilot.@@N@@
open Jvm Jvm.ClassFile Sem Op Lib Jvm.Free Jvm.Stand Jvm.Pilot.@@N@@.Jvm.D
/-! MADE BY PROGRAM (witnessworld.py) out of the Statement's table words and the real class files: 12 classes; the members and pool entries that the words name. The judged class is class 1, her method 1. -/
namespace start1
open Jvm.ClassFile
def u (s : String) : CpInfo := .utf8 (stringToUtf16 s)
/-- a pool by its gaps: so many unusable entries, then the entry; so many at the end -/
def gap : Nat → List CpInfo → List CpInfo
  | 0, r => r
  | n + 1, r => .unusable :: gap n r
def poolList (es : List (Nat × CpInfo)) (last : Nat) : List CpInfo := es.foldr (fun e r => gap e.1 (e.2 :: r)) (gap last [])
def pool (es : List (Nat × CpInfo)) (last : Nat) : Array CpInfo := ⟨poolList es last⟩
def fileOf (pool : Array CpInfo) (this : Nat) (attrs : Array Attribute := #[]) (ms : Array MethodInfo := #[]) (fl : Nat := 33) (sup : Nat := 0) (ifs : Array Nat := #[]) (fds : Array FieldInfo := #[]) : ClassFile where
  minorVersion := 0
  majorVersion := 65
  constantPool := pool
  accessFlags := fl
  thisClass := this
  superClass := sup
  interfaces := ifs
  fields := fds
  methods := ms
  attributes := attrs
def plain (name : String) (sup : Option ClassId) : Class where
  name := name
  kind := .ordinary
  loader := none
  accessFlags := 33
  super := sup
  interfaces := #[]
  cf := none
  fields := #[]
  methods := #[]
  instanceTypes := #[]
  staticTypes := #[]
  resolved := #[]
  callSites := []
  init := .initialized
  statics := none
  mirror := none

def pool0 : Array CpInfo := pool [(5, u "<init>"), (0, u "()V"), (1, .class_ 10), (1, u "java/lang/Object")] 113

def k0c0 : Code := { maxStack := 0, maxLocals := 1, code := object_method_1_code, exceptionTable := #[], attributes := #[] }
def k0m0 : Method := { name := "<init>", desc := "()V", sig := { parameters := [], returnType := none }, accessFlags := 1, code := some k0c0 }
/-- java/lang/Object -/
def k0 : Class := { plain "java/lang/Object" none with
  accessFlags := 33
  interfaces := #[]
  cf := some (fileOf pool0 8 #[] #[{ accessFlags := 1, nameIndex := 5, descriptorIndex := 6, attributes := #[] }] 33 0 #[] #[])
  fields := #[]
  methods := #[k0m0]
  instanceTypes := #[]
  staticTypes := #[]
  resolved := Array.replicate 124 none
  statics := none }

def pool1 : Array CpInfo := pool [(2, .class_ 4), (1, u "java/lang/Object"), (0, u "<init>"), (0, u "()V"), (0, .class_ 8), (0, u "com/example/mave/mave/engine/StateGraph"), (0, .methodref 7 10), (0, .nameAndType 5 11), (0, u "(I)V"), (0, .methodref 7 13), (0, .nameAndType 14 15), (0, u "label"), (0, u "(I[J)V"), (0, .methodref 7 17), (0, .nameAndType 18 19), (0, u "holds"), (0, u "(II)Z"), (0, .methodref 21 22), (0, .class_ 23), (0, .nameAndType 24 25), (0, u "com/example/mave/mave/engine/StateGraphHoldsPinLaw"), (0, u "expected"), (0, u "(IIJJJJ)Z"), (2, u "law")] 8

def k1m0 : Method := { name := "<init>", desc := "()V", sig := { parameters := [], returnType := none }, accessFlags := 1, code := none }
def k1c1 : Code := { maxStack := 11, maxLocals := 17, code := code, exceptionTable := #[], attributes := #[] }
def k1m1 : Method := { name := "law", desc := "(IIJJJJ)Z", sig := { parameters := [.int, .int, .long, .long, .long, .long], returnType := some .boolean }, accessFlags := 9, code := some k1c1 }
def k1c2 : Code := { maxStack := 4, maxLocals := 12, code := method_3_code, exceptionTable := #[], attributes := #[] }
def k1m2 : Method := { name := "expected", desc := "(IIJJJJ)Z", sig := { parameters := [.int, .int, .long, .long, .long, .long], returnType := some .boolean }, accessFlags := 10, code := some k1c2 }
/-- com/example/mave/mave/engine/StateGraphHoldsPinLaw -/
def k1 : Class := { plain "com/example/mave/mave/engine/StateGraphHoldsPinLaw" (some 0) with
  accessFlags := 49
  interfaces := #[]
  cf := some (fileOf pool1 21 #[] #[{ accessFlags := 1, nameIndex := 5, descriptorIndex := 6, attributes := #[] }, { accessFlags := 9, nameIndex := 28, descriptorIndex := 25, attributes := #[] }, { accessFlags := 10, nameIndex := 24, descriptorIndex := 25, attributes := #[] }] 49 2 #[] #[])
  fields := #[]
  methods := #[k1m0, k1m1, k1m2]
  instanceTypes := #[]
  staticTypes := #[]
  resolved := Array.replicate 37 none
  statics := none }

def pool2 : Array CpInfo := pool [(3, .methodref 4 5), (0, .class_ 6), (0, .nameAndType 7 8), (0, u "java/lang/Object"), (0, u "<init>"), (0, u "()V"), (0, .fieldref 10 11), (0, .class_ 12), (0, .nameAndType 13 14), (0, u "com/example/mave/mave/engine/StateGraph"), (0, u "labels"), (0, u "[J"), (0, .fieldref 10 16), (0, .nameAndType 17 18), (0, u "firsts"), (0, u "[I"), (0, .fieldref 10 20), (0, .nameAndType 21 18), (0, u "targets"), (0, .fieldref 10 23), (0, .nameAndType 24 18), (0, u "movers"), (2, .fieldref 10 28), (0, .nameAndType 29 30), (0, u "words"), (0, u "I"), (10, .methodref 42 43), (0, .class_ 44), (0, .nameAndType 45 46), (0, u "java/lang/System"), (0, u "arraycopy"), (0, u "(Ljava/lang/Object;ILjava/lang/Object;II)V"), (2, u "expanded"), (14, u "transitions"), (17, u "LARGEST_ARRAY"), (1, u "(I)V"), (2, u "label"), (0, u "(I[J)V"), (12, u "holds"), (0, u "(II)Z")] 20

def k2c0 : Code := { maxStack := 3, maxLocals := 2, code := prog_31_method_1_code, exceptionTable := #[], attributes := #[] }
def k2m0 : Method := { name := "<init>", desc := "(I)V", sig := { parameters := [.int], returnType := none }, accessFlags := 0, code := some k2c0 }
def k2c1 : Code := { maxStack := 5, maxLocals := 5, code := prog_31_method_2_code, exceptionTable := #[], attributes := #[] }
def k2m1 : Method := { name := "label", desc := "(I[J)V", sig := { parameters := [.int, (.array .long)], returnType := none }, accessFlags := 0, code := some k2c1 }
def k2c2 : Code := { maxStack := 5, maxLocals := 3, code := prog_31_method_10_code, exceptionTable := #[], attributes := #[] }
def k2m2 : Method := { name := "holds", desc := "(II)Z", sig := { parameters := [.int, .int], returnType := some .boolean }, accessFlags := 0, code := some k2c2 }
/-- com/example/mave/mave/engine/StateGraph -/
def k2 : Class := { plain "com/example/mave/mave/engine/StateGraph" (some 0) with
  accessFlags := 48
  interfaces := #[]
  cf := some (fileOf pool2 10 #[] #[{ accessFlags := 0, nameIndex := 7, descriptorIndex := 84, attributes := #[] }, { accessFlags := 0, nameIndex := 87, descriptorIndex := 88, attributes := #[] }, { accessFlags := 0, nameIndex := 101, descriptorIndex := 102, attributes := #[] }] 48 4 #[] #[{ accessFlags := 26, nameIndex := 82, descriptorIndex := 30, attributes := #[] }, { accessFlags := 18, nameIndex := 29, descriptorIndex := 30, attributes := #[] }, { accessFlags := 2, nameIndex := 13, descriptorIndex := 14, attributes := #[] }, { accessFlags := 2, nameIndex := 17, descriptorIndex := 18, attributes := #[] }, { accessFlags := 2, nameIndex := 49, descriptorIndex := 30, attributes := #[] }, { accessFlags := 2, nameIndex := 21, descriptorIndex := 18, attributes := #[] }, { accessFlags := 2, nameIndex := 24, descriptorIndex := 18, attributes := #[] }, { accessFlags := 2, nameIndex := 64, descriptorIndex := 30, attributes := #[] }])
  fields := #[{ name := "LARGEST_ARRAY", type := .int, accessFlags := 26, slot := 0, constantValue := 0 }, { name := "words", type := .int, accessFlags := 18, slot := 0, constantValue := 0 }, { name := "labels", type := (.array .long), accessFlags := 2, slot := 1, constantValue := 0 }, { name := "firsts", type := (.array .int), accessFlags := 2, slot := 2, constantValue := 0 }, { name := "expanded", type := .int, accessFlags := 2, slot := 3, constantValue := 0 }, { name := "targets", type := (.array .int), accessFlags := 2, slot := 4, constantValue := 0 }, { name := "movers", type := (.array .int), accessFlags := 2, slot := 5, constantValue := 0 }, { name := "transitions", type := .int, accessFlags := 2, slot := 6, constantValue := 0 }]
  methods := #[k2m0, k2m1, k2m2]
  instanceTypes := #[.int, (.array .long), (.array .int), .int, (.array .int), (.array .int), .int]
  staticTypes := #[.int]
  resolved := Array.replicate 123 none
  statics := none }

def pool3 : Array CpInfo := pool [(2, .class_ 4), (1, u "java/lang/Object"), (0, u "<init>"), (0, u "()V"), (1, .class_ 10), (1, u "java/lang/System"), (0, u "allowSecurityManager"), (0, u "I"), (16, u "cons"), (0, u "Ljava/io/Console;"), (77, .class_ 110), (1, u "java/lang/System$CallersHolder"), (43, u "initialErrStream"), (0, u "Ljava/io/PrintStream;"), (19, u "security"), (0, u "Ljava/lang/SecurityManager;"), (31, .class_ 209), (0, u "java/lang/System$1"), (7, u "props"), (0, u "Ljava/util/Properties;"), (2, u "lineSeparator"), (0, u "Ljava/lang/String;"), (96, .class_ 321), (1, u "java/lang/System$LoggerFinder"), (5, .class_ 328), (0, u "java/lang/System$Logger"), (67, u "err"), (2, u "out"), (91, u "notSupportedJnuEncoding"), (15, u "in"), (17, u "initialIn"), (0, u "Ljava/io/InputStream;"), (35, u "bootLayer"), (0, u "Ljava/lang/ModuleLayer;"), (99, .class_ 664), (0, u "java/lang/System$2"), (9, u "NEVER"), (2, u "MAYBE"), (49, u "arraycopy"), (0, u "(Ljava/lang/Object;ILjava/lang/Object;II)V"), (72, .class_ 802), (0, u "java/lang/System$Logger$Level")] 31

def k3m0 : Method := { name := "<init>", desc := "()V", sig := { parameters := [], returnType := none }, accessFlags := 2, code := none }
def k3m1 : Method := { name := "arraycopy", desc := "(Ljava/lang/Object;ILjava/lang/Object;II)V", sig := { parameters := [(.object "java/lang/Object"), .int, (.object "java/lang/Object"), .int, .int], returnType := none }, accessFlags := 265, code := none }
/-- java/lang/System -/
def k3 : Class := { plain "java/lang/System" (some 0) with
  accessFlags := 49
  interfaces := #[]
  cf := some (fileOf pool3 8 #[.nestMembers #[319, 327, 801, 108, 663, 208]] #[{ accessFlags := 2, nameIndex := 5, descriptorIndex := 6, attributes := #[] }, { accessFlags := 265, nameIndex := 727, descriptorIndex := 728, attributes := #[] }] 49 2 #[] #[{ accessFlags := 25, nameIndex := 507, descriptorIndex := 526, attributes := #[] }, { accessFlags := 25, nameIndex := 399, descriptorIndex := 155, attributes := #[] }, { accessFlags := 25, nameIndex := 396, descriptorIndex := 155, attributes := #[] }, { accessFlags := 10, nameIndex := 525, descriptorIndex := 526, attributes := #[] }, { accessFlags := 26, nameIndex := 674, descriptorIndex := 12, attributes := #[] }, { accessFlags := 26, nameIndex := 677, descriptorIndex := 12, attributes := #[] }, { accessFlags := 10, nameIndex := 11, descriptorIndex := 12, attributes := #[] }, { accessFlags := 74, nameIndex := 175, descriptorIndex := 176, attributes := #[] }, { accessFlags := 10, nameIndex := 491, descriptorIndex := 222, attributes := #[] }, { accessFlags := 74, nameIndex := 29, descriptorIndex := 30, attributes := #[] }, { accessFlags := 74, nameIndex := 154, descriptorIndex := 155, attributes := #[] }, { accessFlags := 10, nameIndex := 217, descriptorIndex := 218, attributes := #[] }, { accessFlags := 10, nameIndex := 221, descriptorIndex := 222, attributes := #[] }, { accessFlags := 8, nameIndex := 562, descriptorIndex := 563, attributes := #[] }])
  fields := #[{ name := "in", type := (.object "java/io/InputStream"), accessFlags := 25, slot := 0, constantValue := 0 }, { name := "out", type := (.object "java/io/PrintStream"), accessFlags := 25, slot := 1, constantValue := 0 }, { name := "err", type := (.object "java/io/PrintStream"), accessFlags := 25, slot := 2, constantValue := 0 }, { name := "initialIn", type := (.object "java/io/InputStream"), accessFlags := 10, slot := 3, constantValue := 0 }, { name := "NEVER", type := .int, accessFlags := 26, slot := 4, constantValue := 0 }, { name := "MAYBE", type := .int, accessFlags := 26, slot := 5, constantValue := 0 }, { name := "allowSecurityManager", type := .int, accessFlags := 10, slot := 6, constantValue := 0 }, { name := "security", type := (.object "java/lang/SecurityManager"), accessFlags := 74, slot := 7, constantValue := 0 }, { name := "notSupportedJnuEncoding", type := (.object "java/lang/String"), accessFlags := 10, slot := 8, constantValue := 0 }, { name := "cons", type := (.object "java/io/Console"), accessFlags := 74, slot := 9, constantValue := 0 }, { name := "initialErrStream", type := (.object "java/io/PrintStream"), accessFlags := 74, slot := 10, constantValue := 0 }, { name := "props", type := (.object "java/util/Properties"), accessFlags := 10, slot := 11, constantValue := 0 }, { name := "lineSeparator", type := (.object "java/lang/String"), accessFlags := 10, slot := 12, constantValue := 0 }, { name := "bootLayer", type := (.object "java/lang/ModuleLayer"), accessFlags := 8, slot := 13, constantValue := 0 }]
  methods := #[k3m0, k3m1]
  instanceTypes := #[]
  staticTypes := #[(.object "java/io/InputStream"), (.object "java/io/PrintStream"), (.object "java/io/PrintStream"), (.object "java/io/InputStream"), .int, .int, .int, (.object "java/lang/SecurityManager"), (.object "java/lang/String"), (.object "java/io/Console"), (.object "java/io/PrintStream"), (.object "java/util/Properties"), (.object "java/lang/String"), (.object "java/lang/ModuleLayer")]
  resolved := Array.replicate 834 none
  statics := none }

def pool4 : Array CpInfo := pool [(1, u "java/lang/Cloneable"), (0, .class_ 1), (0, u "java/lang/Object"), (0, .class_ 3)] 3

/-- java/lang/Cloneable -/
def k4 : Class := { plain "java/lang/Cloneable" (some 0) with
  accessFlags := 1537
  interfaces := #[]
  cf := some (fileOf pool4 2 #[] #[] 1537 4 #[] #[])
  fields := #[]
  methods := #[]
  instanceTypes := #[]
  staticTypes := #[]
  resolved := Array.replicate 8 none
  statics := none }

def pool5 : Array CpInfo := pool [(1, u "java/io/Serializable"), (0, .class_ 1), (0, u "java/lang/Object"), (0, .class_ 3)] 3

/-- java/io/Serializable -/
def k5 : Class := { plain "java/io/Serializable" (some 0) with
  accessFlags := 1537
  interfaces := #[]
  cf := some (fileOf pool5 2 #[] #[] 1537 4 #[] #[])
  fields := #[]
  methods := #[]
  instanceTypes := #[]
  staticTypes := #[]
  resolved := Array.replicate 8 none
  statics := none }

/-- the primitive byte -/
def k6 : Class := { plain "byte" none with kind := .primitive 'B', accessFlags := 0x411 }
/-- [B -/
def k7 : Class := { plain "[B" (some 0) with kind := .array 6 .byte, interfaces := #[4, 5], accessFlags := 1041 }

/-- the primitive int -/
def k8 : Class := { plain "int" none with kind := .primitive 'I', accessFlags := 0x411 }
/-- [I -/
def k9 : Class := { plain "[I" (some 0) with kind := .array 8 .int, interfaces := #[4, 5], accessFlags := 1041 }

/-- the primitive long -/
def k10 : Class := { plain "long" none with kind := .primitive 'J', accessFlags := 0x411 }
/-- [J -/
def k11 : Class := { plain "[J" (some 0) with kind := .array 10 .long, interfaces := #[4, 5], accessFlags := 1041 }

def heap : Heap := #[]
def classes : Array Class := #[k0, k1, k2, k3, k4, k5, k6, k7, k8, k9, k10, k11]
def interned : List (Array UInt16 × Addr) := []
def slotsUsed : Nat := 0
def theMethod : MethodId := ⟨1, 1⟩
def args0 : Array Value := #[.int 5, .int 5, .long 5, .long 5, .long 5, .long 5]
def aboutOver (below : List Frame) : State where
  vm := { classes := classes, interned := interned.toArray }
  heap := heap
  slotsUsed := slotsUsed
  threads := #[{ frames := .invoking theMethod args0 :: below }]
def below0 : List Frame := [.native { method := ⟨0, 0⟩, args := #[] }]
def about1 : State := aboutOver below0
def p0 : Program := .bare "" "" ""
def e0 : Env := launch0.env 0 0 0
theorem w_frames : about1.frames = Frame.invoking theMethod args0 :: below0 := rfl
set_option maxRecDepth 65536 in
theorem w_args : argsFit about1.vm theMethod args0 = true := by decide +kernel
set_option maxRecDepth 65536 in
theorem w_heap : heapFits about1 = true := by decide +kernel
set_option maxRecDepth 65536 in
theorem w_runnable : about1.curStatus? = some .runnable := by decide +kernel
set_option maxRecDepth 65536 in
theorem w_alone : about1.alone = true := by decide +kernel
set_option maxRecDepth 65536 in
theorem w_named : about1.methodNamed? x = some theMethod := by decide +kernel
set_option maxRecDepth 65536 in
theorem w_hears : about1.hears theMethod below0 = true := by decide +kernel
set_option maxRecDepth 65536 in
theorem w_ripe : about1.ripe theMethod args0 below0 = true := by decide +kernel
theorem w_running : about1.status = .running := rfl
set_option maxRecDepth 65536 in
theorem w_room : about1.hasRoom e0.platform room_1 = true :=
  launch0.hasRoom_least _ room_1 (by decide +kernel) (by decide +kernel) (by decide +kernel) (by decide +kernel) (by decide +kernel) (by decide +kernel)
theorem allAtoms_all (ts : List Jvm.Cond) (a : Array Jvm.Value) (st : Jvm.State) : (allAtoms ts).before a st = ts.all (fun c => c.before a st) := by
  induction ts with
  | nil => rfl
  | cons c t ih =>
    show (Jvm.Cond.and c (allAtoms t)).before a st = _
    rw [Jvm.Cond.before_and, ih, List.all_cons]
def words1 : List Jvm.Cond := Jvm.Cond.code x code maxLocals ret :: tables_1
/-- a 'code' word, met by the world's own term for the bytes: nothing is compared byte by byte -/
theorem code_word {y : MethodName} {bytes : ByteArray} {mx : Nat} {rt : Option FieldType} {a : Array Value} {s : State} {m : MethodId} {meth : Method} {c : Code} (h1 : s.methodNamed? y = some m) (h2 : s.vm.method? m = some meth) (h3 : meth.code = some c) (h4 : c.code = bytes)
    (h5 : (c.maxLocals == mx && c.exceptionTable.isEmpty && decide (c.maxStack ≤ mostOperands) && decide (meth.sig.returnType = rt) && !meth.locks && decide (parseMethodDescriptor y.desc = some meth.sig)) = true) : (Jvm.Cond.code y bytes mx rt).before a s = true := by
  simp only [Bool.and_eq_true, beq_iff_eq, Bool.not_eq_true', decide_eq_true_eq] at h5
  obtain ⟨⟨⟨⟨⟨g1, g2⟩, g3⟩, g4⟩, g5⟩, g6⟩ := h5
  simp [Cond.before, Cond.holds, Cond.value, h1, h2, h3, h4, g1, g2, g3, g4, g5, g6]
def isCode : Jvm.Cond → Bool
  | .code _ _ _ _ => true
  | _ => false
theorem all_split {L : List Jvm.Cond} {P : Jvm.Cond → Bool} (h1 : L.all (fun c => isCode c || P c) = true) (h2 : ∀ c ∈ L.filter isCode, P c = true) : L.all P = true := by
  refine List.all_eq_true.mpr fun c hc => ?_
  have h := List.all_eq_true.mp h1 c hc
  rcases Bool.eq_false_or_eq_true (isCode c) with hi | hi
  · exact h2 c (List.mem_filter.mpr ⟨hc, hi⟩)
  · simpa [hi] using h
set_option maxRecDepth 65536 in
theorem w_c0 : (Jvm.Cond.code x code maxLocals ret).before args0 about1 = true := code_word (m := ⟨1, 1⟩) (meth := k1m1) (c := k1c1) (by decide +kernel) rfl rfl rfl (by decide +kernel)
set_option maxRecDepth 65536 in
theorem w_c1 : (Jvm.Cond.code ({ cls := "com/example/mave/mave/engine/StateGraph", name := "<init>", desc := "(I)V" } : Jvm.MethodName) prog_31_method_1_code (2 : Nat) (Option.none : Option Jvm.ClassFile.FieldType)).before args0 about1 = true := code_word (m := ⟨2, 0⟩) (meth := k2m0) (c := k2c0) (by decide +kernel) rfl rfl rfl (by decide +kernel)
set_option maxRecDepth 65536 in
theorem w_c2 : (Jvm.Cond.code ({ cls := "java/lang/Object", name := "<init>", desc := "()V" } : Jvm.MethodName) object_method_1_code (1 : Nat) (Option.none : Option Jvm.ClassFile.FieldType)).before args0 about1 = true := code_word (m := ⟨0, 0⟩) (meth := k0m0) (c := k0c0) (by decide +kernel) rfl rfl rfl (by decide +kernel)
set_option maxRecDepth 65536 in
theorem w_c3 : (Jvm.Cond.code ({ cls := "com/example/mave/mave/engine/StateGraph", name := "label", desc := "(I[J)V" } : Jvm.MethodName) prog_31_method_2_code (5 : Nat) (Option.none : Option Jvm.ClassFile.FieldType)).before args0 about1 = true := code_word (m := ⟨2, 1⟩) (meth := k2m1) (c := k2c1) (by decide +kernel) rfl rfl rfl (by decide +kernel)
set_option maxRecDepth 65536 in
theorem w_c4 : (Jvm.Cond.code ({ cls := "com/example/mave/mave/engine/StateGraph", name := "holds", desc := "(II)Z" } : Jvm.MethodName) prog_31_method_10_code (3 : Nat) (Option.some Jvm.ClassFile.FieldType.boolean)).before args0 about1 = true := code_word (m := ⟨2, 2⟩) (meth := k2m2) (c := k2c2) (by decide +kernel) rfl rfl rfl (by decide +kernel)
set_option maxRecDepth 65536 in
theorem w_c5 : (Jvm.Cond.code ({ cls := "com/example/mave/mave/engine/StateGraphHoldsPinLaw", name := "expected", desc := "(IIJJJJ)Z" } : Jvm.MethodName) method_3_code (12 : Nat) (Option.some Jvm.ClassFile.FieldType.boolean)).before args0 about1 = true := code_word (m := ⟨1, 2⟩) (meth := k1m2) (c := k1c2) (by decide +kernel) rfl rfl rfl (by decide +kernel)
def codes1 : List Jvm.Cond := [Jvm.Cond.code x code maxLocals ret, Jvm.Cond.code ({ cls := "com/example/mave/mave/engine/StateGraph", name := "<init>", desc := "(I)V" } : Jvm.MethodName) prog_31_method_1_code (2 : Nat) (Option.none : Option Jvm.ClassFile.FieldType), Jvm.Cond.code ({ cls := "java/lang/Object", name := "<init>", desc := "()V" } : Jvm.MethodName) object_method_1_code (1 : Nat) (Option.none : Option Jvm.ClassFile.FieldType), Jvm.Cond.code ({ cls := "com/example/mave/mave/engine/StateGraph", name := "label", desc := "(I[J)V" } : Jvm.MethodName) prog_31_method_2_code (5 : Nat) (Option.none : Option Jvm.ClassFile.FieldType), Jvm.Cond.code ({ cls := "com/example/mave/mave/engine/StateGraph", name := "holds", desc := "(II)Z" } : Jvm.MethodName) prog_31_method_10_code (3 : Nat) (Option.some Jvm.ClassFile.FieldType.boolean), Jvm.Cond.code ({ cls := "com/example/mave/mave/engine/StateGraphHoldsPinLaw", name := "expected", desc := "(IIJJJJ)Z" } : Jvm.MethodName) method_3_code (12 : Nat) (Option.some Jvm.ClassFile.FieldType.boolean)]
set_option maxRecDepth 65536 in
theorem codes_eq : words1.filter isCode = codes1 := rfl
theorem w_codes : ∀ c ∈ words1.filter isCode, c.before args0 about1 = true := by
  rw [codes_eq]
  intro c hc
  simp only [codes1, List.mem_cons, List.not_mem_nil, or_false] at hc
  rcases hc with rfl | rfl | rfl | rfl | rfl | rfl
  · exact w_c0
  · exact w_c1
  · exact w_c2
  · exact w_c3
  · exact w_c4
  · exact w_c5
set_option maxRecDepth 65536 in
theorem w_t1 : (words1.take 24).all (fun c => isCode c || c.before args0 about1) = true := by decide +kernel
set_option maxRecDepth 65536 in
theorem w_t2 : (words1.drop 24).all (fun c => isCode c || c.before args0 about1) = true := by decide +kernel
theorem w_tables : (allAtoms (Jvm.Cond.code x code maxLocals ret :: tables_1)).before args0 about1 = true := by
  rw [allAtoms_all]
  show words1.all (fun c => c.before args0 about1) = true
  refine all_split ?_ w_codes
  rw [← List.take_append_drop 24 words1, List.all_append, w_t1, w_t2]
  rfl
set_option maxRecDepth 65536 in
theorem w_case : (Jvm.Cond.and given_1 narrow_1).before args0 about1 = true := by decide +kernel
theorem w_applies : (headSpec (Jvm.Cond.code x code maxLocals ret :: tables_1) room_1).applies x e0.platform about1 = true :=
  (Spec.applies_iff w_frames).mpr ⟨w_running, w_runnable, w_alone, w_named, w_hears, w_ripe, w_room, w_tables⟩
theorem atStart : AtStart classFile x code maxLocals ret World_1 tables_1 room_1 Calls_1 rest_1 Pre_1 launch0 p0 e0 about1 theMethod args0 below0 :=
  ⟨lists_1, trivial, launch0.admits_env _ _ _, launch0.least_env, fairChoices_fair.cas, fairChoices_fair.clock, w_frames, w_args, w_heap, w_applies, trivial, trivial, w_case⟩
end start1
theorem witness_1 : WitnessClaimed_1 := ⟨start1.p0, start1.e0, start1.about1, start1.theMethod, start1.args0, start1.below0, start1.atStart⟩
end Jvm.Pilot.@@N@@
