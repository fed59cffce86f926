import JvmDerived
import JvmDerived.Pilot.@@N@@Statement
import JvmDerived.Pilot.@@N@@Code
set_option linter.unusedVariables false
set_option linter.unusedSimpArgs false
namespace Jvm.Pilot.@@N@@
open Jvm Jvm.ClassFile Sem Op Lib Jvm.Free Jvm.Stand Jvm.LawKit Jvm.RoadKit Bundle Jvm.Pilot.@@N@@.Jvm.D
/-- the run from F ends, with an outcome and a state that Φ takes -/
def own_Goes (p : Program) (e : Env) (below : List Frame) (Φ : Outcome → State → Prop) (F : State) : Prop :=
  ∃ s₂ o, Steps p.tables e below F s₂ ∧ s₂.status = .running ∧ Ended s₂ below o ∧ Φ o s₂
theorem own_go {p : Program} {e : Env} {below : List Frame} {Φ : Outcome → State → Prop} {F G : State}
    (k : ∀ t, Steps p.tables e below G t → Steps p.tables e below F t) (h : own_Goes p e below Φ G) : own_Goes p e below Φ F := by
  obtain ⟨s₂, o, h1, h2⟩ := h
  exact ⟨s₂, o, k _ h1, h2⟩
/-- what a contract says of the end -/
def own_End (s : State) (Q : Option Value → Heap → List Loc → Prop) (k n : Nat) (o : Outcome) (U' : State) : Prop :=
  ∃ v L, o = .returned v ∧ Q v U'.heap L ∧ FrameEnd s o U' L k n
/-- a value is returned, the heap is as it was -/
def own_Same (w : Value) (h0 : Heap) (n0 : Nat) (v : Option Value) (h : Heap) (L : List Loc) : Prop := v = some w ∧ Fr n0 L ∧ h = h0
/-- nothing is returned, the heap is as it was -/
def own_SameV (h0 : Heap) (n0 : Nat) (v : Option Value) (h : Heap) (L : List Loc) : Prop := v = none ∧ Fr n0 L ∧ h = h0
section Own
variable {p : Program} {l : Launch} {e : Env} {R : Room} {s : State} {m : MethodId} {args : Array Value} {below : List Frame} {meth : Method} {c : Code} {T : State} {locs : List Loc} {cells slots : Nat}
theorem own_ret (X : Stand p l e R s m args below meth c T locs cells slots) (hx : p.tables.exec = Jvm.exec) {pc : Nat} {Ls : Array Slot} {w : Value} {t : FieldType} {i : Instr} {rest : List Value} (hret : meth.sig.returnType = some t) (hn : narrow t w = w)
    (hi : (i = .ireturn ∧ (t = .int ∨ t = .boolean ∨ t = .byte ∨ t = .char ∨ t = .short) ∧ ∃ z, w = .int z) ∨ (i = .lreturn ∧ t = .long ∧ ∃ z, w = .long z) ∨ (i = .dreturn ∧ t = .double ∧ ∃ z, w = .double z) ∨ (i = .freturn ∧ t = .float ∧ ∃ z, w = .float z) ∨ (i = .areturn ∧ t.isReference = true ∧ w.isRef = true))
    (hd : decode c.code pc = .ok (i, 1)) (hlk : meth.locks = false) {Q : Option Value → Heap → List Loc → Prop} {k n : Nat} (h1 : cells ≤ k) (h2 : slots ≤ n) (hQ : Q (some w) T.heap locs) :
    own_Goes p e below (own_End s Q k n) (T.setTop (mkF m pc Ls (w :: rest))) := by
  obtain ⟨fs, hr, hrun, hended, hW, hsame⟩ := X.leave (v := some w) (fun h => by rw [hret] at h; cases h) hlk
  exact ⟨_, _, retOut X hx hret hn hi hd hr, hrun, hended, _, _, rfl, hQ, ⟨_, rfl⟩, hW, hsame.mono h1 h2⟩
theorem own_retI (X : Stand p l e R s m args below meth c T locs cells slots) (hx : p.tables.exec = Jvm.exec) {pc : Nat} {Ls : Array Slot} {z : Int32} {rest : List Value} (hret : meth.sig.returnType = some .int)
    (hd : decode c.code pc = .ok (.ireturn, 1)) (hlk : meth.locks = false) {Q : Option Value → Heap → List Loc → Prop} {k n : Nat} (h1 : cells ≤ k) (h2 : slots ≤ n) (hQ : Q (some (.int z)) T.heap locs) :
    own_Goes p e below (own_End s Q k n) (T.setTop (mkF m pc Ls (.int z :: rest))) := own_ret X hx hret rfl (Or.inl ⟨rfl, Or.inl rfl, z, rfl⟩) hd hlk h1 h2 hQ
theorem own_retJ (X : Stand p l e R s m args below meth c T locs cells slots) (hx : p.tables.exec = Jvm.exec) {pc : Nat} {Ls : Array Slot} {z : Int64} {rest : List Value} (hret : meth.sig.returnType = some .long)
    (hd : decode c.code pc = .ok (.lreturn, 1)) (hlk : meth.locks = false) {Q : Option Value → Heap → List Loc → Prop} {k n : Nat} (h1 : cells ≤ k) (h2 : slots ≤ n) (hQ : Q (some (.long z)) T.heap locs) :
    own_Goes p e below (own_End s Q k n) (T.setTop (mkF m pc Ls (.long z :: rest))) := own_ret X hx hret rfl (Or.inr (Or.inl ⟨rfl, rfl, z, rfl⟩)) hd hlk h1 h2 hQ
theorem own_retB (X : Stand p l e R s m args below meth c T locs cells slots) (hx : p.tables.exec = Jvm.exec) {pc : Nat} {Ls : Array Slot} {z : Int32} {rest : List Value} (hret : meth.sig.returnType = some .boolean) (hz : z = 0 ∨ z = 1)
    (hd : decode c.code pc = .ok (.ireturn, 1)) (hlk : meth.locks = false) {Q : Option Value → Heap → List Loc → Prop} {k n : Nat} (h1 : cells ≤ k) (h2 : slots ≤ n) (hQ : Q (some (.int z)) T.heap locs) :
    own_Goes p e below (own_End s Q k n) (T.setTop (mkF m pc Ls (.int z :: rest))) := own_ret X hx hret (by rcases hz with rfl | rfl <;> rfl) (Or.inl ⟨rfl, Or.inr (Or.inl rfl), z, rfl⟩) hd hlk h1 h2 hQ
theorem own_ret1 (X : Stand p l e R s m args below meth c T locs cells slots) (hx : p.tables.exec = Jvm.exec) {pc : Nat} {Ls : Array Slot} {rest : List Value} (hret : meth.sig.returnType = some .boolean)
    (hd : decode c.code pc = .ok (.ireturn, 1)) (hlk : meth.locks = false) {Q : Option Value → Heap → List Loc → Prop} {k n : Nat} (h1 : cells ≤ k) (h2 : slots ≤ n) (hQ : Q (some (.int 1)) T.heap locs) :
    own_Goes p e below (own_End s Q k n) (T.setTop (mkF m pc Ls (.int 1 :: rest))) := own_retB X hx hret (Or.inr rfl) hd hlk h1 h2 hQ
theorem own_ret0 (X : Stand p l e R s m args below meth c T locs cells slots) (hx : p.tables.exec = Jvm.exec) {pc : Nat} {Ls : Array Slot} {rest : List Value} (hret : meth.sig.returnType = some .boolean)
    (hd : decode c.code pc = .ok (.ireturn, 1)) (hlk : meth.locks = false) {Q : Option Value → Heap → List Loc → Prop} {k n : Nat} (h1 : cells ≤ k) (h2 : slots ≤ n) (hQ : Q (some (.int 0)) T.heap locs) :
    own_Goes p e below (own_End s Q k n) (T.setTop (mkF m pc Ls (.int 0 :: rest))) := own_retB X hx hret (Or.inl rfl) hd hlk h1 h2 hQ
theorem own_retN (X : Stand p l e R s m args below meth c T locs cells slots) (hx : p.tables.exec = Jvm.exec) {pc : Nat} {Ls : Array Slot} {z : Int32} {t : FieldType} {rest : List Value} (hret : meth.sig.returnType = some t) (ht : t = .boolean ∨ t = .byte ∨ t = .char ∨ t = .short)
    (hd : decode c.code pc = .ok (.ireturn, 1)) (hlk : meth.locks = false) {Q : Option Value → Heap → List Loc → Prop} {k n : Nat} (h1 : cells ≤ k) (h2 : slots ≤ n) (hQ : Q (some (.int (nar t z))) T.heap locs) :
    own_Goes p e below (own_End s Q k n) (T.setTop (mkF m pc Ls (.int z :: rest))) := by
  obtain ⟨fs, hr, hrun, hended, hW, hsame⟩ := X.leave (v := some (.int (nar t z))) (fun h => by rw [hret] at h; cases h) hlk
  exact ⟨_, _, retN X hx hret ht hd hr, hrun, hended, _, _, rfl, hQ, ⟨_, rfl⟩, hW, hsame.mono h1 h2⟩
theorem own_retA (X : Stand p l e R s m args below meth c T locs cells slots) (hx : p.tables.exec = Jvm.exec) {pc : Nat} {Ls : Array Slot} {w : Value} {t : FieldType} {rest : List Value} (hret : meth.sig.returnType = some t) (ht : t.isReference = true) (hw : w.isRef = true)
    (hd : decode c.code pc = .ok (.areturn, 1)) (hlk : meth.locks = false) {Q : Option Value → Heap → List Loc → Prop} {k n : Nat} (h1 : cells ≤ k) (h2 : slots ≤ n) (hQ : Q (some w) T.heap locs) :
    own_Goes p e below (own_End s Q k n) (T.setTop (mkF m pc Ls (w :: rest))) := own_ret X hx hret (by cases t <;> first | rfl | cases ht) (Or.inr (Or.inr (Or.inr (Or.inr ⟨rfl, ht, hw⟩)))) hd hlk h1 h2 hQ
theorem own_retV (X : Stand p l e R s m args below meth c T locs cells slots) (hx : p.tables.exec = Jvm.exec) {pc : Nat} {Ls : Array Slot} (hret : meth.sig.returnType = none)
    (hd : decode c.code pc = .ok (.return_, 1)) (hlk : meth.locks = false) {Q : Option Value → Heap → List Loc → Prop} {k n : Nat} (h1 : cells ≤ k) (h2 : slots ≤ n) (hQ : Q none T.heap locs) :
    own_Goes p e below (own_End s Q k n) (T.setTop (mkF m pc Ls [])) := by
  obtain ⟨fs, hr, hrun, hended, hW, hsame⟩ := X.leave (v := none) (fun _ => rfl) hlk
  exact ⟨_, _, X.returnOut hx hret hd hr, hrun, hended, _, _, rfl, hQ, ⟨_, rfl⟩, hW, hsame.mono h1 h2⟩
end Own
/-- the law says true; nothing old is written -/
def own_True (n0 : Nat) (v : Option Value) (h : Heap) (L : List Loc) : Prop := v = some (.int 1) ∧ Fr n0 L
theorem own_i (x y : Int32) : (x = y ↔ x.toInt = y.toInt) ∧ (x < y ↔ x.toInt < y.toInt) ∧ (x ≤ y ↔ x.toInt ≤ y.toInt) := ⟨Int32.toInt_inj.symm, Int32.lt_iff_toInt_lt, Int32.le_iff_toInt_le⟩
theorem own_ie (x y : Int32) : x = y ↔ x.toInt = y.toInt := Int32.toInt_inj.symm
theorem own_le (x y : Int64) : x = y ↔ x.toInt = y.toInt := Int64.toInt_inj.symm
/-- an array of which the kind and the length alone are told -/
def own_A (Z : State) (h : Heap) (a : Addr) (ty : FieldType) (n : Int32) : Prop := ∃ c : Cell, Arr Z h a c ty ∧ c.slots.size = n.toNatClampNeg ∧ ¬ n < 0
section OwnA
variable {Z : State} {h h' : Heap} {a b : Addr} {ty : FieldType} {n : Int32} {sl : Nat} {v : Value} {ws : List Addr}
theorem own_A.lt (F : own_A Z h a ty n) : a < h.size := by obtain ⟨c, A, -⟩ := F; exact A.lt
theorem own_A.ext (F : own_A Z h a ty n) (E : Ext h h') : own_A Z h' a ty n := by obtain ⟨c, A, r⟩ := F; exact ⟨c, A.ext E, r⟩
theorem own_A.other (F : own_A Z h b ty n) (W : Wr h h' a sl v) (q : b ≠ a) : own_A Z h' b ty n := by obtain ⟨c, A, r⟩ := F; exact ⟨c, A.other W q, r⟩
theorem own_A.same (F : own_A Z h a ty n) (W : Wr h h' a sl v) : own_A Z h' a ty n := by
  obtain ⟨c, A, r1, r2⟩ := F
  exact ⟨_, A.same W, by rw [← r1]; simp [Cell.setSlot], r2⟩
theorem own_A.keep (F : own_A Z h a ty n) (K : Keep h h' ws) (q : a ∉ ws) : own_A Z h' a ty n := by obtain ⟨c, A, r⟩ := F; exact ⟨c, ⟨K.2.1 a c A.1 q, A.2⟩, r⟩
theorem own_A.of {k : ClassId} {vs : List Value} {d : Value} (F : Arv Z h a k ty n vs d) : own_A Z h a ty n := by obtain ⟨c, A, -, r1, r2, -⟩ := F; exact ⟨c, A, r1, r2⟩
end OwnA
theorem own_staKeep {Z : State} {h h' : Heap} {C n d : String} {v : Value} (F : Sta Z h C n d v) (K : Keep h h' []) : Sta Z h' C n d v := by
  obtain ⟨cf, i, k, f, st, cell, h1, h2, h3, h4, h5, r⟩ := F
  exact ⟨cf, i, k, f, st, cell, h1, h2, h3, h4, K.2.1 _ _ h5 nin0, r⟩
def Q_rm1 (Z : State) (r0 : Addr) (p1 : Int32) (r2 : Addr) (p3 : Int32) (r4 : Addr) (h0 : Heap) (n0 : Nat) (v : Option Value) (h : Heap) (L : List Loc) : Prop := v = none ∧ Fr n0 L ∧ Keep h0 h [r0] ∧ Exa Z h r0 "com/example/lotear/lotear/cnab/Record" ∧ Fld Z h r0 "com/example/lotear/lotear/cnab/Record" "line" "I" (.int p1) ∧ Fld Z h r0 "com/example/lotear/lotear/cnab/Record" "columns" "[B" (.ref r2) ∧ Fld Z h r0 "com/example/lotear/lotear/cnab/Record" "length" "I" (.int p3) ∧ Fld Z h r0 "com/example/lotear/lotear/cnab/Record" "ending" "Lcom/example/lotear/lotear/cnab/Record$LineEnding;" (.ref r4)
theorem d1_0 : decode prog_25_method_2_code 0 = .ok (.aload_n 0, 1) := by decide +kernel
theorem d1_1 : decode prog_25_method_2_code 1 = .ok (.invokespecial 19, 3) := by decide +kernel
theorem d1_4 : decode prog_25_method_2_code 4 = .ok (.aload_n 0, 1) := by decide +kernel
theorem d1_5 : decode prog_25_method_2_code 5 = .ok (.iload_n 1, 1) := by decide +kernel
theorem d1_6 : decode prog_25_method_2_code 6 = .ok (.putfield 24, 3) := by decide +kernel
theorem d1_9 : decode prog_25_method_2_code 9 = .ok (.aload_n 0, 1) := by decide +kernel
theorem d1_10 : decode prog_25_method_2_code 10 = .ok (.aload_n 2, 1) := by decide +kernel
theorem d1_11 : decode prog_25_method_2_code 11 = .ok (.putfield 28, 3) := by decide +kernel
theorem d1_14 : decode prog_25_method_2_code 14 = .ok (.aload_n 0, 1) := by decide +kernel
theorem d1_15 : decode prog_25_method_2_code 15 = .ok (.iload_n 3, 1) := by decide +kernel
theorem d1_16 : decode prog_25_method_2_code 16 = .ok (.putfield 32, 3) := by decide +kernel
theorem d1_19 : decode prog_25_method_2_code 19 = .ok (.aload_n 0, 1) := by decide +kernel
theorem d1_20 : decode prog_25_method_2_code 20 = .ok (.aload 4, 2) := by decide +kernel
theorem d1_22 : decode prog_25_method_2_code 22 = .ok (.putfield 35, 3) := by decide +kernel
theorem d1_25 : decode prog_25_method_2_code 25 = .ok (.return_, 1) := by decide +kernel
theorem pn1 : plainName "com/example/lotear/lotear/cnab/Record" = true := by first | (simp [plainName, overriddenIn]; done) | decide +kernel
theorem ef_rm1 (m : MethodId) (r0 : Addr) (p1 : Int32) (r2 : Addr) (p3 : Int32) (r4 : Addr) : entryFrame m #[(.ref r0), (.int p1), (.ref r2), (.int p3), (.ref r4)] 5 = mkF m 0 #[.val (.ref r0), .val (.int p1), .val (.ref r2), .val (.int p3), .val (.ref r4)] [] := by first | (simp [entryFrame, mkF, argsToLocals, Value.category]; done) | rfl
set_option maxRecDepth 65536 in
set_option maxHeartbeats 40000000 in
theorem rm1 (l : Launch) (Z : State) (a0 : Array Value) (hw : ∀ d ∈ tables_1, d.before a0 Z = true) (ws : List Jvm.Cond) (r0 : Addr) (p1 : Int32) (r2 : Addr) (p3 : Int32) (r4 : Addr) (h0 : Heap) (n0 : Nat) (Z0 : n0 ≤ h0.size) (F_line_r0 : Fld Z h0 r0 "com/example/lotear/lotear/cnab/Record" "line" "I" (.int (0 : Int32))) (F_columns_r0 : Fld Z h0 r0 "com/example/lotear/lotear/cnab/Record" "columns" "[B" .null) (F_length_r0 : Fld Z h0 r0 "com/example/lotear/lotear/cnab/Record" "length" "I" (.int (0 : Int32))) (F_ending_r0 : Fld Z h0 r0 "com/example/lotear/lotear/cnab/Record" "ending" "Lcom/example/lotear/lotear/cnab/Record$LineEnding;" .null) (E_r0 : Exa Z h0 r0 "com/example/lotear/lotear/cnab/Record") (gn_r0 : n0 ≤ r0) :
    MetFree l (⟨"com/example/lotear/lotear/cnab/Record", "<init>", "(I[BILcom/example/lotear/lotear/cnab/Record$LineEnding;)V"⟩ : MethodName) (head1 (Jvm.Cond.code (⟨"com/example/lotear/lotear/cnab/Record", "<init>", "(I[BILcom/example/lotear/lotear/cnab/Record$LineEnding;)V"⟩ : MethodName) prog_25_method_2_code 5 none :: ws) ({ frames := 1, cells := 0, slots := 0, locals := 12 } : Room)) (fun a U => a = #[(.ref r0), (.int p1), (.ref r2), (.int p3), (.ref r4)] ∧ Z.Warmed39 U.vm ∧ U.heap = h0) (fun _ _ _ _ _ => True) (fun _ U o U' => ∃ v L, o = .returned v ∧ (Q_rm1 Z r0 p1 r2 p3 r4 h0 n0) v U'.heap L ∧ FrameEnd U o U' L 0 0) := by
  refine MetFree.of_bodySF (plainFor_of_name pn1) hisR ?_
  intro p e s m args below meth c s₁ Bd hml0 hP hK
  obtain ⟨rfl, hZ, hh⟩ := hP
  have hx := Bd.exec
  have hby := Bd.bytes
  have hml : c.maxLocals = 5 := hml0
  have hown : s.vm.findClass "com/example/lotear/lotear/cnab/Record" = some m.cls := findClass_of_methodNamed Bd.named
  have hnm := (name_of_methodNamed Bd.named Bd.method).1
  have X0 : Stand p l e ({ frames := 1, cells := 0, slots := 0, locals := 12 } : Room) s m #[(.ref r0), (.int p1), (.ref r2), (.int p3), (.ref r4)] below meth c s₁ [] 0 0 := Stand.of_body Bd
  have e0 : s₁.heap = h0 := by rw [← hh, Bd.state]; rfl
  have N0 := Fr.nil n0
  have K0 : Keep h0 h0 [r0] := Keep.refl h0 [r0]
  show own_Goes p e below (own_End s (Q_rm1 Z r0 p1 r2 p3 r4 h0 n0) 0 0) _
  refine own_go (G := s₁.setTop (mkF m 0 #[.val (.ref r0), .val (.int p1), .val (.ref r2), .val (.int p3), .val (.ref r4)] [])) (fun t k => castTop (ef_rm1 m r0 p1 r2 p3 r4) k) ?_
  refine own_go (G := s₁.setTop (mkF m 1 #[.val (.ref r0), .val (.int p1), .val (.ref r2), .val (.int p3), .val (.ref r4)] [(.ref r0)])) (fun _ k => XS.aloadN X0.here hx rfl (hb hby d1_0) rfl rfl k) ?_
  obtain ⟨T1, X1, e1, st1⟩ := initO X0 hx hZ hown (hw _ (List.mem_of_getElem? (i := 10) rfl)) (hw _ (List.mem_of_getElem? (i := 11) rfl)) (hw _ (List.mem_of_getElem? (i := 12) rfl)) e0 (g := (mkF m 1 #[.val (.ref r0), .val (.int p1), .val (.ref r2), .val (.int p3), .val (.ref r4)] [(.ref r0)])) rfl (by rw [hml]; rfl) rfl (hb hby d1_1) (by decide) (W := 0) (by show 2 * 0 + _ ≤ _; exact Nat.le_of_eq rfl) (by decide)
  refine own_go (G := T1.setTop (mkF m 4 #[.val (.ref r0), .val (.int p1), .val (.ref r2), .val (.int p3), .val (.ref r4)] [])) (st1) ?_
  refine own_go (G := T1.setTop (mkF m 5 #[.val (.ref r0), .val (.int p1), .val (.ref r2), .val (.int p3), .val (.ref r4)] [(.ref r0)])) (fun _ k => XS.aloadN X1.here hx rfl (hb hby d1_4) rfl rfl k) ?_
  refine own_go (G := T1.setTop (mkF m 6 #[.val (.ref r0), .val (.int p1), .val (.ref r2), .val (.int p3), .val (.ref r4)] [(.int p1), (.ref r0)])) (fun _ k => XS.iloadN X1.here hx rfl (hb hby d1_5) rfl k) ?_
  obtain ⟨T2, h2, X2, e2, W2, st2⟩ := putF X1 hx hZ hown (host := "") (Or.inl (hw _ (List.mem_of_getElem? (i := 13) rfl))) Via.refl e1 F_line_r0 E_r0 (Or.inr ⟨(hw _ (List.mem_of_getElem? (i := 14) rfl)), rfl, hnm⟩) (hw _ (List.mem_of_getElem? (i := 2) rfl)) (ty := .int) (by decide) rfl rfl (g := (mkF m 6 #[.val (.ref r0), .val (.int p1), .val (.ref r2), .val (.int p3), .val (.ref r4)] [(.int p1), (.ref r0)])) rfl rfl (hb hby d1_6)
  have F_columns_r0_c2 : Fld Z h2 r0 "com/example/lotear/lotear/cnab/Record" "columns" "[B" .null := F_columns_r0.other W2 (Or.inr (slot_ne (Or.inr (hw _ (List.mem_of_getElem? (i := 16) rfl))) (Or.inr (hw _ (List.mem_of_getElem? (i := 14) rfl))) (by decide) (t := (.array .byte)) (t' := .int) (by decide) (by decide)))
  have F_length_r0_c2 : Fld Z h2 r0 "com/example/lotear/lotear/cnab/Record" "length" "I" (.int (0 : Int32)) := F_length_r0.other W2 (Or.inr (slot_ne (Or.inr (hw _ (List.mem_of_getElem? (i := 18) rfl))) (Or.inr (hw _ (List.mem_of_getElem? (i := 14) rfl))) (by decide) (t := .int) (t' := .int) (by decide) (by decide)))
  have F_ending_r0_c2 : Fld Z h2 r0 "com/example/lotear/lotear/cnab/Record" "ending" "Lcom/example/lotear/lotear/cnab/Record$LineEnding;" .null := F_ending_r0.other W2 (Or.inr (slot_ne (Or.inr (hw _ (List.mem_of_getElem? (i := 20) rfl))) (Or.inr (hw _ (List.mem_of_getElem? (i := 14) rfl))) (by decide) (t := (.object "com/example/lotear/lotear/cnab/Record$LineEnding")) (t' := .int) (by decide) (by decide)))
  have E_r0_c2 : Exa Z h2 r0 "com/example/lotear/lotear/cnab/Record" := E_r0.wr W2
  have Fw2_line : Fld Z h2 r0 "com/example/lotear/lotear/cnab/Record" "line" "I" (.int p1) := F_line_r0.same W2
  have N2 := Fr.snoc X2 N0 gn_r0
  have Z2 : n0 ≤ h2.size := Nat.le_trans Z0 (Keep.of_wr W2).1
  have K2 : Keep h0 h2 [r0] := K0.wr W2 (Or.inl (List.mem_of_getElem? (i := 0) rfl))
  refine own_go (G := T2.setTop (mkF m 9 #[.val (.ref r0), .val (.int p1), .val (.ref r2), .val (.int p3), .val (.ref r4)] [])) (st2) ?_
  refine own_go (G := T2.setTop (mkF m 10 #[.val (.ref r0), .val (.int p1), .val (.ref r2), .val (.int p3), .val (.ref r4)] [(.ref r0)])) (fun _ k => XS.aloadN X2.here hx rfl (hb hby d1_9) rfl rfl k) ?_
  refine own_go (G := T2.setTop (mkF m 11 #[.val (.ref r0), .val (.int p1), .val (.ref r2), .val (.int p3), .val (.ref r4)] [(.ref r2), (.ref r0)])) (fun _ k => XS.aloadN X2.here hx rfl (hb hby d1_10) rfl rfl k) ?_
  obtain ⟨T3, h3, X3, e3, W3, st3⟩ := putF X2 hx hZ hown (host := "") (Or.inl (hw _ (List.mem_of_getElem? (i := 15) rfl))) Via.refl e2 F_columns_r0_c2 E_r0_c2 (Or.inr ⟨(hw _ (List.mem_of_getElem? (i := 16) rfl)), rfl, hnm⟩) (hw _ (List.mem_of_getElem? (i := 2) rfl)) (ty := (.array .byte)) (by decide) rfl rfl (g := (mkF m 11 #[.val (.ref r0), .val (.int p1), .val (.ref r2), .val (.int p3), .val (.ref r4)] [(.ref r2), (.ref r0)])) rfl rfl (hb hby d1_11)
  have Fw2_line_c3 : Fld Z h3 r0 "com/example/lotear/lotear/cnab/Record" "line" "I" (.int p1) := Fw2_line.other W3 (Or.inr (slot_ne (Or.inr (hw _ (List.mem_of_getElem? (i := 14) rfl))) (Or.inr (hw _ (List.mem_of_getElem? (i := 16) rfl))) (by decide) (t := .int) (t' := (.array .byte)) (by decide) (by decide)))
  have F_length_r0_c3 : Fld Z h3 r0 "com/example/lotear/lotear/cnab/Record" "length" "I" (.int (0 : Int32)) := F_length_r0_c2.other W3 (Or.inr (slot_ne (Or.inr (hw _ (List.mem_of_getElem? (i := 18) rfl))) (Or.inr (hw _ (List.mem_of_getElem? (i := 16) rfl))) (by decide) (t := .int) (t' := (.array .byte)) (by decide) (by decide)))
  have F_ending_r0_c3 : Fld Z h3 r0 "com/example/lotear/lotear/cnab/Record" "ending" "Lcom/example/lotear/lotear/cnab/Record$LineEnding;" .null := F_ending_r0_c2.other W3 (Or.inr (slot_ne (Or.inr (hw _ (List.mem_of_getElem? (i := 20) rfl))) (Or.inr (hw _ (List.mem_of_getElem? (i := 16) rfl))) (by decide) (t := (.object "com/example/lotear/lotear/cnab/Record$LineEnding")) (t' := (.array .byte)) (by decide) (by decide)))
  have E_r0_c3 : Exa Z h3 r0 "com/example/lotear/lotear/cnab/Record" := E_r0_c2.wr W3
  have Fw3_columns : Fld Z h3 r0 "com/example/lotear/lotear/cnab/Record" "columns" "[B" (.ref r2) := F_columns_r0_c2.same W3
  have N3 := Fr.snoc X3 N2 gn_r0
  have Z3 : n0 ≤ h3.size := Nat.le_trans Z2 (Keep.of_wr W3).1
  have K3 : Keep h0 h3 [r0] := K2.wr W3 (Or.inl (List.mem_of_getElem? (i := 0) rfl))
  refine own_go (G := T3.setTop (mkF m 14 #[.val (.ref r0), .val (.int p1), .val (.ref r2), .val (.int p3), .val (.ref r4)] [])) (st3) ?_
  refine own_go (G := T3.setTop (mkF m 15 #[.val (.ref r0), .val (.int p1), .val (.ref r2), .val (.int p3), .val (.ref r4)] [(.ref r0)])) (fun _ k => XS.aloadN X3.here hx rfl (hb hby d1_14) rfl rfl k) ?_
  refine own_go (G := T3.setTop (mkF m 16 #[.val (.ref r0), .val (.int p1), .val (.ref r2), .val (.int p3), .val (.ref r4)] [(.int p3), (.ref r0)])) (fun _ k => XS.iloadN X3.here hx rfl (hb hby d1_15) rfl k) ?_
  obtain ⟨T4, h4, X4, e4, W4, st4⟩ := putF X3 hx hZ hown (host := "") (Or.inl (hw _ (List.mem_of_getElem? (i := 17) rfl))) Via.refl e3 F_length_r0_c3 E_r0_c3 (Or.inr ⟨(hw _ (List.mem_of_getElem? (i := 18) rfl)), rfl, hnm⟩) (hw _ (List.mem_of_getElem? (i := 2) rfl)) (ty := .int) (by decide) rfl rfl (g := (mkF m 16 #[.val (.ref r0), .val (.int p1), .val (.ref r2), .val (.int p3), .val (.ref r4)] [(.int p3), (.ref r0)])) rfl rfl (hb hby d1_16)
  have Fw2_line_c4 : Fld Z h4 r0 "com/example/lotear/lotear/cnab/Record" "line" "I" (.int p1) := Fw2_line_c3.other W4 (Or.inr (slot_ne (Or.inr (hw _ (List.mem_of_getElem? (i := 14) rfl))) (Or.inr (hw _ (List.mem_of_getElem? (i := 18) rfl))) (by decide) (t := .int) (t' := .int) (by decide) (by decide)))
  have Fw3_columns_c4 : Fld Z h4 r0 "com/example/lotear/lotear/cnab/Record" "columns" "[B" (.ref r2) := Fw3_columns.other W4 (Or.inr (slot_ne (Or.inr (hw _ (List.mem_of_getElem? (i := 16) rfl))) (Or.inr (hw _ (List.mem_of_getElem? (i := 18) rfl))) (by decide) (t := (.array .byte)) (t' := .int) (by decide) (by decide)))
  have F_ending_r0_c4 : Fld Z h4 r0 "com/example/lotear/lotear/cnab/Record" "ending" "Lcom/example/lotear/lotear/cnab/Record$LineEnding;" .null := F_ending_r0_c3.other W4 (Or.inr (slot_ne (Or.inr (hw _ (List.mem_of_getElem? (i := 20) rfl))) (Or.inr (hw _ (List.mem_of_getElem? (i := 18) rfl))) (by decide) (t := (.object "com/example/lotear/lotear/cnab/Record$LineEnding")) (t' := .int) (by decide) (by decide)))
  have E_r0_c4 : Exa Z h4 r0 "com/example/lotear/lotear/cnab/Record" := E_r0_c3.wr W4
  have Fw4_length : Fld Z h4 r0 "com/example/lotear/lotear/cnab/Record" "length" "I" (.int p3) := F_length_r0_c3.same W4
  have N4 := Fr.snoc X4 N3 gn_r0
  have Z4 : n0 ≤ h4.size := Nat.le_trans Z3 (Keep.of_wr W4).1
  have K4 : Keep h0 h4 [r0] := K3.wr W4 (Or.inl (List.mem_of_getElem? (i := 0) rfl))
  refine own_go (G := T4.setTop (mkF m 19 #[.val (.ref r0), .val (.int p1), .val (.ref r2), .val (.int p3), .val (.ref r4)] [])) (st4) ?_
  refine own_go (G := T4.setTop (mkF m 20 #[.val (.ref r0), .val (.int p1), .val (.ref r2), .val (.int p3), .val (.ref r4)] [(.ref r0)])) (fun _ k => XS.aloadN X4.here hx rfl (hb hby d1_19) rfl rfl k) ?_
  refine own_go (G := T4.setTop (mkF m 22 #[.val (.ref r0), .val (.int p1), .val (.ref r2), .val (.int p3), .val (.ref r4)] [(.ref r4), (.ref r0)])) (fun _ k => XS.aload X4.here hx rfl (hb hby d1_20) rfl rfl k) ?_
  obtain ⟨T5, h5, X5, e5, W5, st5⟩ := putF X4 hx hZ hown (host := "") (Or.inl (hw _ (List.mem_of_getElem? (i := 19) rfl))) Via.refl e4 F_ending_r0_c4 E_r0_c4 (Or.inr ⟨(hw _ (List.mem_of_getElem? (i := 20) rfl)), rfl, hnm⟩) (hw _ (List.mem_of_getElem? (i := 2) rfl)) (ty := (.object "com/example/lotear/lotear/cnab/Record$LineEnding")) (by decide) rfl rfl (g := (mkF m 22 #[.val (.ref r0), .val (.int p1), .val (.ref r2), .val (.int p3), .val (.ref r4)] [(.ref r4), (.ref r0)])) rfl rfl (hb hby d1_22)
  have Fw2_line_c5 : Fld Z h5 r0 "com/example/lotear/lotear/cnab/Record" "line" "I" (.int p1) := Fw2_line_c4.other W5 (Or.inr (slot_ne (Or.inr (hw _ (List.mem_of_getElem? (i := 14) rfl))) (Or.inr (hw _ (List.mem_of_getElem? (i := 20) rfl))) (by decide) (t := .int) (t' := (.object "com/example/lotear/lotear/cnab/Record$LineEnding")) (by decide) (by decide)))
  have Fw3_columns_c5 : Fld Z h5 r0 "com/example/lotear/lotear/cnab/Record" "columns" "[B" (.ref r2) := Fw3_columns_c4.other W5 (Or.inr (slot_ne (Or.inr (hw _ (List.mem_of_getElem? (i := 16) rfl))) (Or.inr (hw _ (List.mem_of_getElem? (i := 20) rfl))) (by decide) (t := (.array .byte)) (t' := (.object "com/example/lotear/lotear/cnab/Record$LineEnding")) (by decide) (by decide)))
  have Fw4_length_c5 : Fld Z h5 r0 "com/example/lotear/lotear/cnab/Record" "length" "I" (.int p3) := Fw4_length.other W5 (Or.inr (slot_ne (Or.inr (hw _ (List.mem_of_getElem? (i := 18) rfl))) (Or.inr (hw _ (List.mem_of_getElem? (i := 20) rfl))) (by decide) (t := .int) (t' := (.object "com/example/lotear/lotear/cnab/Record$LineEnding")) (by decide) (by decide)))
  have E_r0_c5 : Exa Z h5 r0 "com/example/lotear/lotear/cnab/Record" := E_r0_c4.wr W5
  have Fw5_ending : Fld Z h5 r0 "com/example/lotear/lotear/cnab/Record" "ending" "Lcom/example/lotear/lotear/cnab/Record$LineEnding;" (.ref r4) := F_ending_r0_c4.same W5
  have N5 := Fr.snoc X5 N4 gn_r0
  have Z5 : n0 ≤ h5.size := Nat.le_trans Z4 (Keep.of_wr W5).1
  have K5 : Keep h0 h5 [r0] := K4.wr W5 (Or.inl (List.mem_of_getElem? (i := 0) rfl))
  refine own_go (G := T5.setTop (mkF m 25 #[.val (.ref r0), .val (.int p1), .val (.ref r2), .val (.int p3), .val (.ref r4)] [])) (st5) ?_
  exact own_retV X5 hx Bd.returns (hb hby d1_25) Bd.notSynchronized (by decide) (by decide) (by rw [e5]; exact ⟨rfl, N5, K5, E_r0_c5, Fw2_line_c5, Fw3_columns_c5, Fw4_length_c5, Fw5_ending⟩)
theorem d3_0 : decode prog_25_method_7_code 0 = .ok (.aload_n 0, 1) := by decide +kernel
theorem d3_1 : decode prog_25_method_7_code 1 = .ok (.getfield 28, 3) := by decide +kernel
theorem d3_4 : decode prog_25_method_7_code 4 = .ok (.iload_n 1, 1) := by decide +kernel
theorem d3_5 : decode prog_25_method_7_code 5 = .ok (.iconst 1, 1) := by decide +kernel
theorem d3_6 : decode prog_25_method_7_code 6 = .ok (.isub, 1) := by decide +kernel
theorem d3_7 : decode prog_25_method_7_code 7 = .ok (.baload, 1) := by decide +kernel
theorem d3_8 : decode prog_25_method_7_code 8 = .ok (.sipush 255, 3) := by decide +kernel
theorem d3_11 : decode prog_25_method_7_code 11 = .ok (.iand, 1) := by decide +kernel
theorem d3_12 : decode prog_25_method_7_code 12 = .ok (.i2c, 1) := by decide +kernel
theorem d3_13 : decode prog_25_method_7_code 13 = .ok (.ireturn, 1) := by decide +kernel
theorem pn3 : plainName "com/example/lotear/lotear/cnab/Record" = true := by first | (simp [plainName, overriddenIn]; done) | decide +kernel
theorem ef_rm3 (m : MethodId) (r0 : Addr) (p1 : Int32) : entryFrame m #[(.ref r0), (.int p1)] 2 = mkF m 0 #[.val (.ref r0), .val (.int p1)] [] := by first | (simp [entryFrame, mkF, argsToLocals, Value.category]; done) | rfl
def F3 (r0 : Addr) (p1 : Int32) (w_columns_r0 : Addr) (cl : Cell) (w : Int32) : Int32 := (nar .char ((w &&& (255 : Int32)).toUInt32.toUInt16.toUInt32.toInt32))
set_option maxRecDepth 65536 in
set_option maxHeartbeats 40000000 in
theorem rm3 (l : Launch) (Z : State) (a0 : Array Value) (hw : ∀ d ∈ tables_1, d.before a0 Z = true) (ws : List Jvm.Cond) (r0 : Addr) (p1 : Int32) (w_columns_r0 : Addr) (cl : Cell) (w : Int32) (h0 : Heap) (n0 : Nat) (Z0 : n0 ≤ h0.size) (F_columns_r0 : Fld Z h0 r0 "com/example/lotear/lotear/cnab/Record" "columns" "[B" (.ref w_columns_r0)) (Ar : Arr Z h0 w_columns_r0 cl .byte) (hin : ¬ ((p1 - (1 : Int32)) < 0 ∨ cl.slots.size ≤ (p1 - (1 : Int32)).toNatClampNeg)) (hat : cl.slots[(p1 - (1 : Int32)).toNatClampNeg]? = some (.int w)) :
    MetFree l (⟨"com/example/lotear/lotear/cnab/Record", "column", "(I)C"⟩ : MethodName) (head1 (Jvm.Cond.code (⟨"com/example/lotear/lotear/cnab/Record", "column", "(I)C"⟩ : MethodName) prog_25_method_7_code 2 (some .char) :: ws) ({ frames := 0, cells := 0, slots := 0, locals := 0 } : Room)) (fun a U => a = #[(.ref r0), (.int p1)] ∧ Z.Warmed39 U.vm ∧ U.heap = h0) (fun _ _ _ _ _ => True) (fun _ U o U' => ∃ v L, o = .returned v ∧ (own_Same (.int (F3 r0 p1 w_columns_r0 cl w)) h0 n0) v U'.heap L ∧ FrameEnd U o U' L 0 0) := by
  refine MetFree.of_bodySF (plainFor_of_name pn3) hisR ?_
  intro p e s m args below meth c s₁ Bd hml0 hP hK
  obtain ⟨rfl, hZ, hh⟩ := hP
  have hx := Bd.exec
  have hby := Bd.bytes
  have hml : c.maxLocals = 2 := hml0
  have hown : s.vm.findClass "com/example/lotear/lotear/cnab/Record" = some m.cls := findClass_of_methodNamed Bd.named
  have hnm := (name_of_methodNamed Bd.named Bd.method).1
  have X0 : Stand p l e ({ frames := 0, cells := 0, slots := 0, locals := 0 } : Room) s m #[(.ref r0), (.int p1)] below meth c s₁ [] 0 0 := Stand.of_body Bd
  have e0 : s₁.heap = h0 := by rw [← hh, Bd.state]; rfl
  have N0 := Fr.nil n0
  show own_Goes p e below (own_End s (own_Same (.int (F3 r0 p1 w_columns_r0 cl w)) h0 n0) 0 0) _
  refine own_go (G := s₁.setTop (mkF m 0 #[.val (.ref r0), .val (.int p1)] [])) (fun t k => castTop (ef_rm3 m r0 p1) k) ?_
  refine own_go (G := s₁.setTop (mkF m 1 #[.val (.ref r0), .val (.int p1)] [(.ref r0)])) (fun _ k => XS.aloadN X0.here hx rfl (hb hby d3_0) rfl rfl k) ?_
  obtain ⟨T3, X3, e3, st3⟩ := getF X0 hx hZ hown (host := "") (Or.inl (hw _ (List.mem_of_getElem? (i := 15) rfl))) Via.refl e0 F_columns_r0 (g := (mkF m 1 #[.val (.ref r0), .val (.int p1)] [(.ref r0)])) rfl rfl (hb hby d3_1)
  refine own_go (G := T3.setTop (mkF m 4 #[.val (.ref r0), .val (.int p1)] [(.ref w_columns_r0)])) (st3) ?_
  refine own_go (G := T3.setTop (mkF m 5 #[.val (.ref r0), .val (.int p1)] [(.int p1), (.ref w_columns_r0)])) (fun _ k => XS.iloadN X3.here hx rfl (hb hby d3_4) rfl k) ?_
  refine own_go (G := T3.setTop (mkF m 6 #[.val (.ref r0), .val (.int p1)] [(.int (1 : Int32)), (.int p1), (.ref w_columns_r0)])) (fun _ k => XS.iconst X3.here hx rfl (hb hby d3_5) k) ?_
  refine own_go (G := T3.setTop (mkF m 7 #[.val (.ref r0), .val (.int p1)] [(.int (p1 - (1 : Int32))), (.ref w_columns_r0)])) (fun _ k => XS.isub X3.here hx rfl (hb hby d3_6) rfl k) ?_
  refine own_go (G := T3.setTop (mkF m 8 #[.val (.ref r0), .val (.int p1)] [(.int w)])) (X3.baloadBytes hx (j := (p1 - (1 : Int32))) (v := (.int w)) (by rw [e3]; exact Ar.1) (State.isArrayOf_alike hZ.alike Ar.2.1) Ar.2.2 hin hat (g := (mkF m 7 #[.val (.ref r0), .val (.int p1)] [(.int (p1 - (1 : Int32))), (.ref w_columns_r0)])) rfl rfl (hb hby d3_7)) ?_
  refine own_go (G := T3.setTop (mkF m 11 #[.val (.ref r0), .val (.int p1)] [(.int (255 : Int32)), (.int w)])) (fun _ k => XS.sipush X3.here hx rfl (hb hby d3_8) k) ?_
  refine own_go (G := T3.setTop (mkF m 12 #[.val (.ref r0), .val (.int p1)] [(.int (w &&& (255 : Int32)))])) (fun _ k => XS.iand X3.here hx rfl (hb hby d3_11) rfl k) ?_
  refine own_go (G := T3.setTop (mkF m 13 #[.val (.ref r0), .val (.int p1)] [(.int ((w &&& (255 : Int32)).toUInt32.toUInt16.toUInt32.toInt32))])) (fun _ k => XS.i2c X3.here hx rfl (hb hby d3_12) rfl k) ?_
  exact own_retN X3 hx Bd.returns (by simp) (hb hby d3_13) Bd.notSynchronized (by decide) (by decide) ⟨rfl, N0, e3⟩
theorem d4_0 : decode method_3_code 0 = .ok (.iload_n 0, 1) := by decide +kernel
theorem d4_1 : decode method_3_code 1 = .ok (.i2b, 1) := by decide +kernel
theorem d4_2 : decode method_3_code 2 = .ok (.istore_n 1, 1) := by decide +kernel
theorem d4_3 : decode method_3_code 3 = .ok (.iload_n 1, 1) := by decide +kernel
theorem d4_4 : decode method_3_code 4 = .ok (.istore_n 2, 1) := by decide +kernel
theorem d4_5 : decode method_3_code 5 = .ok (.iload_n 2, 1) := by decide +kernel
theorem d4_6 : decode method_3_code 6 = .ok (.ifCond .ge 9, 3) := by decide +kernel
theorem d4_9 : decode method_3_code 9 = .ok (.iload_n 2, 1) := by decide +kernel
theorem d4_10 : decode method_3_code 10 = .ok (.sipush 256, 3) := by decide +kernel
theorem d4_13 : decode method_3_code 13 = .ok (.iadd, 1) := by decide +kernel
theorem d4_14 : decode method_3_code 14 = .ok (.istore_n 2, 1) := by decide +kernel
theorem d4_15 : decode method_3_code 15 = .ok (.iload_n 2, 1) := by decide +kernel
theorem d4_16 : decode method_3_code 16 = .ok (.i2c, 1) := by decide +kernel
theorem d4_17 : decode method_3_code 17 = .ok (.ireturn, 1) := by decide +kernel
theorem pn4 : plainName "com/example/lotear/lotear/cnab/RecordColumnPinLaw" = true := by first | (simp [plainName, overriddenIn]; done) | decide +kernel
theorem ef_rm4 (m : MethodId) (p0 : Int32) : entryFrame m #[(.int p0)] 3 = mkF m 0 #[.val (.int p0), .unset, .unset] [] := by first | (simp [entryFrame, mkF, argsToLocals, Value.category]; done) | rfl
def F4_15 (p0 : Int32) (l1 : Int32) (l2 : Int32) : Int32 := (nar .char (l2.toUInt32.toUInt16.toUInt32.toInt32))
def F4 (p0 : Int32) : Int32 := (if (p0.toInt8.toInt32) < (0 : Int32) then (F4_15 p0 (p0.toInt8.toInt32) ((p0.toInt8.toInt32) + (256 : Int32))) else (F4_15 p0 (p0.toInt8.toInt32) (p0.toInt8.toInt32)))
set_option maxRecDepth 65536 in
set_option maxHeartbeats 40000000 in
theorem rm4 (l : Launch) (Z : State) (a0 : Array Value) (hw : ∀ d ∈ tables_1, d.before a0 Z = true) (ws : List Jvm.Cond) (p0 : Int32) (h0 : Heap) (n0 : Nat) (Z0 : n0 ≤ h0.size) :
    MetFree l (⟨"com/example/lotear/lotear/cnab/RecordColumnPinLaw", "expected", "(I)C"⟩ : MethodName) (head1 (Jvm.Cond.code (⟨"com/example/lotear/lotear/cnab/RecordColumnPinLaw", "expected", "(I)C"⟩ : MethodName) method_3_code 3 (some .char) :: ws) ({ frames := 0, cells := 0, slots := 0, locals := 0 } : Room)) (fun a U => a = #[(.int p0)] ∧ Z.Warmed39 U.vm ∧ U.heap = h0) (fun _ _ _ _ _ => True) (fun _ U o U' => ∃ v L, o = .returned v ∧ (own_Same (.int (F4 p0)) h0 n0) v U'.heap L ∧ FrameEnd U o U' L 0 0) := by
  refine MetFree.of_bodySF (plainFor_of_name pn4) hisR ?_
  intro p e s m args below meth c s₁ Bd hml0 hP hK
  obtain ⟨rfl, hZ, hh⟩ := hP
  have hx := Bd.exec
  have hby := Bd.bytes
  have hml : c.maxLocals = 3 := hml0
  have hown : s.vm.findClass "com/example/lotear/lotear/cnab/RecordColumnPinLaw" = some m.cls := findClass_of_methodNamed Bd.named
  have hnm := (name_of_methodNamed Bd.named Bd.method).1
  have X0 : Stand p l e ({ frames := 0, cells := 0, slots := 0, locals := 0 } : Room) s m #[(.int p0)] below meth c s₁ [] 0 0 := Stand.of_body Bd
  have e0 : s₁.heap = h0 := by rw [← hh, Bd.state]; rfl
  have N0 := Fr.nil n0
  have j15 : ∀ (l1 : Int32) (l2 : Int32) (T : State) (locs : List Loc) (X : Stand p l e ({ frames := 0, cells := 0, slots := 0, locals := 0 } : Room) s m #[(.int p0)] below meth c T locs 0 0) (eT : T.heap = h0) (N : Fr n0 locs), own_Goes p e below (own_End s (own_Same (.int (F4_15 p0 l1 l2)) h0 n0) 0 0) (T.setTop (mkF m 15 #[.val (.int p0), .val (.int l1), .val (.int l2)] [])) := by
    intro l1 l2 T locs X eT N
    refine own_go (G := T.setTop (mkF m 16 #[.val (.int p0), .val (.int l1), .val (.int l2)] [(.int l2)])) (fun _ k => XS.iloadN X.here hx rfl (hb hby d4_15) rfl k) ?_
    refine own_go (G := T.setTop (mkF m 17 #[.val (.int p0), .val (.int l1), .val (.int l2)] [(.int (l2.toUInt32.toUInt16.toUInt32.toInt32))])) (fun _ k => XS.i2c X.here hx rfl (hb hby d4_16) rfl k) ?_
    exact own_retN X hx Bd.returns (by simp) (hb hby d4_17) Bd.notSynchronized (by decide) (by decide) ⟨rfl, N, eT⟩
  show own_Goes p e below (own_End s (own_Same (.int (F4 p0)) h0 n0) 0 0) _
  refine own_go (G := s₁.setTop (mkF m 0 #[.val (.int p0), .unset, .unset] [])) (fun t k => castTop (ef_rm4 m p0) k) ?_
  refine own_go (G := s₁.setTop (mkF m 1 #[.val (.int p0), .unset, .unset] [(.int p0)])) (fun _ k => XS.iloadN X0.here hx rfl (hb hby d4_0) rfl k) ?_
  refine own_go (G := s₁.setTop (mkF m 2 #[.val (.int p0), .unset, .unset] [(.int (p0.toInt8.toInt32))])) (fun _ k => XS.i2b X0.here hx rfl (hb hby d4_1) rfl k) ?_
  refine own_go (G := s₁.setTop (mkF m 3 #[.val (.int p0), .val (.int (p0.toInt8.toInt32)), .unset] [])) (fun _ k => XS.istoreN X0.here hx rfl (hb hby d4_2) rfl (l' := #[.val (.int p0), .val (.int (p0.toInt8.toInt32)), .unset]) rfl k) ?_
  refine own_go (G := s₁.setTop (mkF m 4 #[.val (.int p0), .val (.int (p0.toInt8.toInt32)), .unset] [(.int (p0.toInt8.toInt32))])) (fun _ k => XS.iloadN X0.here hx rfl (hb hby d4_3) rfl k) ?_
  refine own_go (G := s₁.setTop (mkF m 5 #[.val (.int p0), .val (.int (p0.toInt8.toInt32)), .val (.int (p0.toInt8.toInt32))] [])) (fun _ k => XS.istoreN X0.here hx rfl (hb hby d4_4) rfl (l' := #[.val (.int p0), .val (.int (p0.toInt8.toInt32)), .val (.int (p0.toInt8.toInt32))]) rfl k) ?_
  refine own_go (G := s₁.setTop (mkF m 6 #[.val (.int p0), .val (.int (p0.toInt8.toInt32)), .val (.int (p0.toInt8.toInt32))] [(.int (p0.toInt8.toInt32))])) (fun _ k => XS.iloadN X0.here hx rfl (hb hby d4_5) rfl k) ?_
  show own_Goes p e below (own_End s (own_Same (.int (if (p0.toInt8.toInt32) < (0 : Int32) then (F4_15 p0 (p0.toInt8.toInt32) ((p0.toInt8.toInt32) + (256 : Int32))) else (F4_15 p0 (p0.toInt8.toInt32) (p0.toInt8.toInt32)))) h0 n0) 0 0) _
  by_cases hc6 : (p0.toInt8.toInt32) < (0 : Int32)
  · rw [if_pos hc6]
    refine own_go (G := s₁.setTop (mkF m 9 #[.val (.int p0), .val (.int (p0.toInt8.toInt32)), .val (.int (p0.toInt8.toInt32))] [])) (fun _ k => XS.ifNo X0.here hx rfl (hb hby d4_6) rfl ((if0 _ _).trans (tlt hc6).2.1) k) ?_
    refine own_go (G := s₁.setTop (mkF m 10 #[.val (.int p0), .val (.int (p0.toInt8.toInt32)), .val (.int (p0.toInt8.toInt32))] [(.int (p0.toInt8.toInt32))])) (fun _ k => XS.iloadN X0.here hx rfl (hb hby d4_9) rfl k) ?_
    refine own_go (G := s₁.setTop (mkF m 13 #[.val (.int p0), .val (.int (p0.toInt8.toInt32)), .val (.int (p0.toInt8.toInt32))] [(.int (256 : Int32)), (.int (p0.toInt8.toInt32))])) (fun _ k => XS.sipush X0.here hx rfl (hb hby d4_10) k) ?_
    refine own_go (G := s₁.setTop (mkF m 14 #[.val (.int p0), .val (.int (p0.toInt8.toInt32)), .val (.int (p0.toInt8.toInt32))] [(.int ((p0.toInt8.toInt32) + (256 : Int32)))])) (fun _ k => XS.iadd X0.here hx rfl (hb hby d4_13) rfl k) ?_
    refine own_go (G := s₁.setTop (mkF m 15 #[.val (.int p0), .val (.int (p0.toInt8.toInt32)), .val (.int ((p0.toInt8.toInt32) + (256 : Int32)))] [])) (fun _ k => XS.istoreN X0.here hx rfl (hb hby d4_14) rfl (l' := #[.val (.int p0), .val (.int (p0.toInt8.toInt32)), .val (.int ((p0.toInt8.toInt32) + (256 : Int32)))]) rfl k) ?_
    exact j15 (p0.toInt8.toInt32) ((p0.toInt8.toInt32) + (256 : Int32)) _ _ X0 e0 N0
  · rw [if_neg hc6]
    refine own_go (G := s₁.setTop (mkF m 15 #[.val (.int p0), .val (.int (p0.toInt8.toInt32)), .val (.int (p0.toInt8.toInt32))] [])) (fun _ k => XS.ifYes X0.here hx rfl (pc0 := 6) (pc' := 15) rfl (hb hby d4_6) rfl ((if0 _ _).trans (flt hc6).2.1) (by decide) (by decide) k) ?_
    exact j15 (p0.toInt8.toInt32) (p0.toInt8.toInt32) _ _ X0 e0 N0

theorem own_law {r0 : Addr} {p a : Int32} {wc : Addr} {cl : Cell} {v : Int32} (h : F3 r0 p wc cl (nar .byte (a.toInt8.toInt32)) = v) : v = F4 a := by
  have b := c_i2b a
  have b2 := c_i2b (a.toInt8.toInt32)
  have e1 : nar .byte (a.toInt8.toInt32) = a.toInt8.toInt32 := Int32.toInt_inj.mp (show ((a.toInt8.toInt32).toInt8.toInt32).toInt = _ by omega)
  rw [← h]
  simp only [F3, F4, F4_15,  e1]
  generalize a.toInt8.toInt32 = z at *
  have m := c_mask z 255 8 (by decide) (by decide)
  have c1 := c_i2c (z &&& 255)
  have q1 := c_iadd z 256
  rw [show (256 : Int32).toInt = 256 from rfl] at q1
  have r1 := rng32 (z + 256)
  have c2 := c_i2c (z + 256)
  have c3 := c_i2c z
  simp only [nar]
  split
  · rename_i hc
    rw [Int32.lt_iff_toInt_lt, show (0 : Int32).toInt = 0 from rfl] at hc
    have e2 : (z &&& 255).toUInt32.toUInt16.toUInt32.toInt32 = (z + 256).toUInt32.toUInt16.toUInt32.toInt32 := Int32.toInt_inj.mp (by omega)
    rw [e2]
  · rename_i hc
    rw [Int32.lt_iff_toInt_lt, show (0 : Int32).toInt = 0 from rfl] at hc
    have e2 : (z &&& 255).toUInt32.toUInt16.toUInt32.toInt32 = z.toUInt32.toUInt16.toUInt32.toInt32 := Int32.toInt_inj.mp (by omega)
    rw [e2]

theorem pn0 : plainName "com/example/lotear/lotear/cnab/RecordColumnPinLaw" = true := by first | (simp [plainName, overriddenIn]; done) | decide +kernel
theorem pd0 : parseMethodDescriptor "(I[BILcom/example/lotear/lotear/cnab/Record$LineEnding;)V" = some ⟨[.int, (.array .byte), .int, (.object "com/example/lotear/lotear/cnab/Record$LineEnding")], none⟩ := by decide +kernel
theorem pd1 : parseMethodDescriptor "(I)C" = some ⟨[.int], some .char⟩ := by decide +kernel
theorem ef_rm0 (m : MethodId) (p0 : Int32) (p1 : Int32) (p2 : Int32) (p3 : Int32) (p4 : Int32) (p5 : Int32) : entryFrame m #[(.int p0), (.int p1), (.int p2), (.int p3), (.int p4), (.int p5)] maxLocals = mkF m 0 #[.val (.int p0), .val (.int p1), .val (.int p2), .val (.int p3), .val (.int p4), .val (.int p5), .unset, .unset, .unset, .unset, .unset, .unset] [] := by first | (simp [entryFrame, mkF, argsToLocals, Value.category, maxLocals]; done) | rfl
set_option maxRecDepth 65536 in
set_option maxHeartbeats 40000000 in
theorem rm0 (l : Launch) (Z : State) (a0 : Array Value) (hw : ∀ d ∈ tables_1, d.before a0 Z = true) (ws : List Jvm.Cond) (p0 : Int32) (p1 : Int32) (p2 : Int32) (p3 : Int32) (p4 : Int32) (p5 : Int32) (s_LF : Addr) (h0 : Heap) (n0 : Nat) (Z0 : n0 ≤ h0.size) (S_LF : Sta Z h0 "com/example/lotear/lotear/cnab/Record$LineEnding" "LF" "Lcom/example/lotear/lotear/cnab/Record$LineEnding;" (.ref s_LF)) :
    MetFree l x (head1 (Jvm.Cond.code x code maxLocals ret :: ws) room_1) (fun a U => a = #[(.int p0), (.int p1), (.int p2), (.int p3), (.int p4), (.int p5)] ∧ Z.Warmed39 U.vm ∧ U.heap = h0) (fun _ _ _ _ _ => True) (fun _ U o U' => ∃ v L, o = .returned v ∧ (own_True n0) v U'.heap L ∧ FrameEnd U o U' L 16 128) := by
  refine MetFree.of_bodySF (plainFor_of_name pn0) hisR ?_
  intro p e s m args below meth c s₁ Bd hml0 hP hK
  obtain ⟨rfl, hZ, hh⟩ := hP
  have hx := Bd.exec
  have hby := Bd.bytes
  have hml : c.maxLocals = 12 := hml0
  have hown : s.vm.findClass "com/example/lotear/lotear/cnab/RecordColumnPinLaw" = some m.cls := findClass_of_methodNamed Bd.named
  have hnm := (name_of_methodNamed Bd.named Bd.method).1
  have X0 : Stand p l e room_1 s m #[(.int p0), (.int p1), (.int p2), (.int p3), (.int p4), (.int p5)] below meth c s₁ [] 0 0 := Stand.of_body Bd
  have e0 : s₁.heap = h0 := by rw [← hh, Bd.state]; rfl
  have N0 := Fr.nil n0
  show own_Goes p e below (own_End s (own_True n0) 16 128) _
  refine own_go (G := s₁.setTop (mkF m 0 #[.val (.int p0), .val (.int p1), .val (.int p2), .val (.int p3), .val (.int p4), .val (.int p5), .unset, .unset, .unset, .unset, .unset, .unset] [])) (fun t k => castTop (ef_rm0 m p0 p1 p2 p3 p4 p5) k) ?_
  refine own_go (G := s₁.setTop (mkF m 1 #[.val (.int p0), .val (.int p1), .val (.int p2), .val (.int p3), .val (.int p4), .val (.int p5), .unset, .unset, .unset, .unset, .unset, .unset] [(.int (4 : Int32))])) (fun _ k => XS.iconst X0.here hx rfl (hb hby at_0) k) ?_
  obtain ⟨T1, h1, k1, X1, e1, E1, A1, st1⟩ := newP X0 hx hZ (hw _ (List.mem_of_getElem? (i := 0) rfl)) e0 (g := (mkF m 1 #[.val (.int p0), .val (.int p1), .val (.int p2), .val (.int p3), .val (.int p4), .val (.int p5), .unset, .unset, .unset, .unset, .unset, .unset] [(.int (4 : Int32))])) rfl (hb hby at_1) rfl (by decide) (cap := 4) (by decide) (by decide) (by decide) (by decide)
  obtain ⟨b1, g1⟩ : ∃ z, z = h0.size := ⟨_, rfl⟩
  rw [← g1] at A1 st1
  have gn_b1 : n0 ≤ b1 := Nat.le_trans Z0 (Nat.le_of_eq g1.symm)
  have S_LF_c1 : Sta Z h1 "com/example/lotear/lotear/cnab/Record$LineEnding" "LF" "Lcom/example/lotear/lotear/cnab/Record$LineEnding;" (.ref s_LF) := S_LF.ext E1
  have Z1 : n0 ≤ h1.size := Nat.le_trans Z0 E1.1
  have V_b1 : Arv Z h1 b1 k1 .byte (4 : Int32) [(.int (0 : Int32)), (.int (0 : Int32)), (.int (0 : Int32)), (.int (0 : Int32))] (.int (0 : Int32)) := (Arv.new A1 (by decide)).pad (pad_rep [] (.int (0 : Int32)) 4)
  refine own_go (G := T1.setTop (mkF m 3 #[.val (.int p0), .val (.int p1), .val (.int p2), .val (.int p3), .val (.int p4), .val (.int p5), .unset, .unset, .unset, .unset, .unset, .unset] [(.ref b1)])) (st1) ?_
  refine own_go (G := T1.setTop (mkF m 5 #[.val (.int p0), .val (.int p1), .val (.int p2), .val (.int p3), .val (.int p4), .val (.int p5), .val (.ref b1), .unset, .unset, .unset, .unset, .unset] [])) (fun _ k => XS.astore X1.here hx rfl (hb hby at_3) rfl rfl (l' := #[.val (.int p0), .val (.int p1), .val (.int p2), .val (.int p3), .val (.int p4), .val (.int p5), .val (.ref b1), .unset, .unset, .unset, .unset, .unset]) rfl k) ?_
  refine own_go (G := T1.setTop (mkF m 7 #[.val (.int p0), .val (.int p1), .val (.int p2), .val (.int p3), .val (.int p4), .val (.int p5), .val (.ref b1), .unset, .unset, .unset, .unset, .unset] [(.ref b1)])) (fun _ k => XS.aload X1.here hx rfl (hb hby at_5) rfl rfl k) ?_
  refine own_go (G := T1.setTop (mkF m 8 #[.val (.int p0), .val (.int p1), .val (.int p2), .val (.int p3), .val (.int p4), .val (.int p5), .val (.ref b1), .unset, .unset, .unset, .unset, .unset] [(.int (0 : Int32)), (.ref b1)])) (fun _ k => XS.iconst X1.here hx rfl (hb hby at_7) k) ?_
  refine own_go (G := T1.setTop (mkF m 9 #[.val (.int p0), .val (.int p1), .val (.int p2), .val (.int p3), .val (.int p4), .val (.int p5), .val (.ref b1), .unset, .unset, .unset, .unset, .unset] [(.int p0), (.int (0 : Int32)), (.ref b1)])) (fun _ k => XS.iloadN X1.here hx rfl (hb hby at_8) rfl k) ?_
  refine own_go (G := T1.setTop (mkF m 10 #[.val (.int p0), .val (.int p1), .val (.int p2), .val (.int p3), .val (.int p4), .val (.int p5), .val (.ref b1), .unset, .unset, .unset, .unset, .unset] [(.int (p0.toInt8.toInt32)), (.int (0 : Int32)), (.ref b1)])) (fun _ k => XS.i2b X1.here hx rfl (hb hby at_9) rfl k) ?_
  obtain ⟨cl2, Ar2, qk2, S2, N2_, Ha2, G2⟩ := id V_b1
  have hin2 : ¬ ((0 : Int32) < 0 ∨ cl2.slots.size ≤ ((0 : Int32)).toNatClampNeg) := inb_of S2 ⟨by decide, by decide⟩
  obtain ⟨T2, h2, X2, e2, W2, st2⟩ := stB X1 hx hZ e1 Ar2 (j := (0 : Int32)) hin2 (g := (mkF m 10 #[.val (.int p0), .val (.int p1), .val (.int p2), .val (.int p3), .val (.int p4), .val (.int p5), .val (.ref b1), .unset, .unset, .unset, .unset, .unset] [(.int (p0.toInt8.toInt32)), (.int (0 : Int32)), (.ref b1)])) rfl rfl (hb hby at_10)
  have V2_b1 : Arv Z h2 b1 k1 .byte (4 : Int32) [(.int (nar .byte (p0.toInt8.toInt32))), (.int (0 : Int32)), (.int (0 : Int32)), (.int (0 : Int32))] (.int (0 : Int32)) := Arv.set Ar2 qk2 S2 N2_ Ha2 G2 (fits_nar_byte _) W2 0 rfl (Nat.le_of_ble_eq_true rfl)
  have S_LF_c2 : Sta Z h2 "com/example/lotear/lotear/cnab/Record$LineEnding" "LF" "Lcom/example/lotear/lotear/cnab/Record$LineEnding;" (.ref s_LF) := S_LF_c1.wr W2
  have N2 := Fr.snoc X2 N0 gn_b1
  have Z2 : n0 ≤ h2.size := Nat.le_trans Z1 (Keep.of_wr W2).1
  refine own_go (G := T2.setTop (mkF m 11 #[.val (.int p0), .val (.int p1), .val (.int p2), .val (.int p3), .val (.int p4), .val (.int p5), .val (.ref b1), .unset, .unset, .unset, .unset, .unset] [])) (st2) ?_
  refine own_go (G := T2.setTop (mkF m 13 #[.val (.int p0), .val (.int p1), .val (.int p2), .val (.int p3), .val (.int p4), .val (.int p5), .val (.ref b1), .unset, .unset, .unset, .unset, .unset] [(.ref b1)])) (fun _ k => XS.aload X2.here hx rfl (hb hby at_11) rfl rfl k) ?_
  refine own_go (G := T2.setTop (mkF m 14 #[.val (.int p0), .val (.int p1), .val (.int p2), .val (.int p3), .val (.int p4), .val (.int p5), .val (.ref b1), .unset, .unset, .unset, .unset, .unset] [(.int (1 : Int32)), (.ref b1)])) (fun _ k => XS.iconst X2.here hx rfl (hb hby at_13) k) ?_
  refine own_go (G := T2.setTop (mkF m 15 #[.val (.int p0), .val (.int p1), .val (.int p2), .val (.int p3), .val (.int p4), .val (.int p5), .val (.ref b1), .unset, .unset, .unset, .unset, .unset] [(.int p1), (.int (1 : Int32)), (.ref b1)])) (fun _ k => XS.iloadN X2.here hx rfl (hb hby at_14) rfl k) ?_
  refine own_go (G := T2.setTop (mkF m 16 #[.val (.int p0), .val (.int p1), .val (.int p2), .val (.int p3), .val (.int p4), .val (.int p5), .val (.ref b1), .unset, .unset, .unset, .unset, .unset] [(.int (p1.toInt8.toInt32)), (.int (1 : Int32)), (.ref b1)])) (fun _ k => XS.i2b X2.here hx rfl (hb hby at_15) rfl k) ?_
  obtain ⟨cl3, Ar3, qk3, S3, N3_, Ha3, G3⟩ := id V2_b1
  have hin3 : ¬ ((1 : Int32) < 0 ∨ cl3.slots.size ≤ ((1 : Int32)).toNatClampNeg) := inb_of S3 ⟨by decide, by decide⟩
  obtain ⟨T3, h3, X3, e3, W3, st3⟩ := stB X2 hx hZ e2 Ar3 (j := (1 : Int32)) hin3 (g := (mkF m 16 #[.val (.int p0), .val (.int p1), .val (.int p2), .val (.int p3), .val (.int p4), .val (.int p5), .val (.ref b1), .unset, .unset, .unset, .unset, .unset] [(.int (p1.toInt8.toInt32)), (.int (1 : Int32)), (.ref b1)])) rfl rfl (hb hby at_16)
  have V3_b1 : Arv Z h3 b1 k1 .byte (4 : Int32) [(.int (nar .byte (p0.toInt8.toInt32))), (.int (nar .byte (p1.toInt8.toInt32))), (.int (0 : Int32)), (.int (0 : Int32))] (.int (0 : Int32)) := Arv.set Ar3 qk3 S3 N3_ Ha3 G3 (fits_nar_byte _) W3 1 rfl (Nat.le_of_ble_eq_true rfl)
  have S_LF_c3 : Sta Z h3 "com/example/lotear/lotear/cnab/Record$LineEnding" "LF" "Lcom/example/lotear/lotear/cnab/Record$LineEnding;" (.ref s_LF) := S_LF_c2.wr W3
  have N3 := Fr.snoc X3 N2 gn_b1
  have Z3 : n0 ≤ h3.size := Nat.le_trans Z2 (Keep.of_wr W3).1
  refine own_go (G := T3.setTop (mkF m 17 #[.val (.int p0), .val (.int p1), .val (.int p2), .val (.int p3), .val (.int p4), .val (.int p5), .val (.ref b1), .unset, .unset, .unset, .unset, .unset] [])) (st3) ?_
  refine own_go (G := T3.setTop (mkF m 19 #[.val (.int p0), .val (.int p1), .val (.int p2), .val (.int p3), .val (.int p4), .val (.int p5), .val (.ref b1), .unset, .unset, .unset, .unset, .unset] [(.ref b1)])) (fun _ k => XS.aload X3.here hx rfl (hb hby at_17) rfl rfl k) ?_
  refine own_go (G := T3.setTop (mkF m 20 #[.val (.int p0), .val (.int p1), .val (.int p2), .val (.int p3), .val (.int p4), .val (.int p5), .val (.ref b1), .unset, .unset, .unset, .unset, .unset] [(.int (2 : Int32)), (.ref b1)])) (fun _ k => XS.iconst X3.here hx rfl (hb hby at_19) k) ?_
  refine own_go (G := T3.setTop (mkF m 21 #[.val (.int p0), .val (.int p1), .val (.int p2), .val (.int p3), .val (.int p4), .val (.int p5), .val (.ref b1), .unset, .unset, .unset, .unset, .unset] [(.int p2), (.int (2 : Int32)), (.ref b1)])) (fun _ k => XS.iloadN X3.here hx rfl (hb hby at_20) rfl k) ?_
  refine own_go (G := T3.setTop (mkF m 22 #[.val (.int p0), .val (.int p1), .val (.int p2), .val (.int p3), .val (.int p4), .val (.int p5), .val (.ref b1), .unset, .unset, .unset, .unset, .unset] [(.int (p2.toInt8.toInt32)), (.int (2 : Int32)), (.ref b1)])) (fun _ k => XS.i2b X3.here hx rfl (hb hby at_21) rfl k) ?_
  obtain ⟨cl4, Ar4, qk4, S4, N4_, Ha4, G4⟩ := id V3_b1
  have hin4 : ¬ ((2 : Int32) < 0 ∨ cl4.slots.size ≤ ((2 : Int32)).toNatClampNeg) := inb_of S4 ⟨by decide, by decide⟩
  obtain ⟨T4, h4, X4, e4, W4, st4⟩ := stB X3 hx hZ e3 Ar4 (j := (2 : Int32)) hin4 (g := (mkF m 22 #[.val (.int p0), .val (.int p1), .val (.int p2), .val (.int p3), .val (.int p4), .val (.int p5), .val (.ref b1), .unset, .unset, .unset, .unset, .unset] [(.int (p2.toInt8.toInt32)), (.int (2 : Int32)), (.ref b1)])) rfl rfl (hb hby at_22)
  have V4_b1 : Arv Z h4 b1 k1 .byte (4 : Int32) [(.int (nar .byte (p0.toInt8.toInt32))), (.int (nar .byte (p1.toInt8.toInt32))), (.int (nar .byte (p2.toInt8.toInt32))), (.int (0 : Int32))] (.int (0 : Int32)) := Arv.set Ar4 qk4 S4 N4_ Ha4 G4 (fits_nar_byte _) W4 2 rfl (Nat.le_of_ble_eq_true rfl)
  have S_LF_c4 : Sta Z h4 "com/example/lotear/lotear/cnab/Record$LineEnding" "LF" "Lcom/example/lotear/lotear/cnab/Record$LineEnding;" (.ref s_LF) := S_LF_c3.wr W4
  have N4 := Fr.snoc X4 N3 gn_b1
  have Z4 : n0 ≤ h4.size := Nat.le_trans Z3 (Keep.of_wr W4).1
  refine own_go (G := T4.setTop (mkF m 23 #[.val (.int p0), .val (.int p1), .val (.int p2), .val (.int p3), .val (.int p4), .val (.int p5), .val (.ref b1), .unset, .unset, .unset, .unset, .unset] [])) (st4) ?_
  refine own_go (G := T4.setTop (mkF m 25 #[.val (.int p0), .val (.int p1), .val (.int p2), .val (.int p3), .val (.int p4), .val (.int p5), .val (.ref b1), .unset, .unset, .unset, .unset, .unset] [(.ref b1)])) (fun _ k => XS.aload X4.here hx rfl (hb hby at_23) rfl rfl k) ?_
  refine own_go (G := T4.setTop (mkF m 26 #[.val (.int p0), .val (.int p1), .val (.int p2), .val (.int p3), .val (.int p4), .val (.int p5), .val (.ref b1), .unset, .unset, .unset, .unset, .unset] [(.int (3 : Int32)), (.ref b1)])) (fun _ k => XS.iconst X4.here hx rfl (hb hby at_25) k) ?_
  refine own_go (G := T4.setTop (mkF m 27 #[.val (.int p0), .val (.int p1), .val (.int p2), .val (.int p3), .val (.int p4), .val (.int p5), .val (.ref b1), .unset, .unset, .unset, .unset, .unset] [(.int p3), (.int (3 : Int32)), (.ref b1)])) (fun _ k => XS.iloadN X4.here hx rfl (hb hby at_26) rfl k) ?_
  refine own_go (G := T4.setTop (mkF m 28 #[.val (.int p0), .val (.int p1), .val (.int p2), .val (.int p3), .val (.int p4), .val (.int p5), .val (.ref b1), .unset, .unset, .unset, .unset, .unset] [(.int (p3.toInt8.toInt32)), (.int (3 : Int32)), (.ref b1)])) (fun _ k => XS.i2b X4.here hx rfl (hb hby at_27) rfl k) ?_
  obtain ⟨cl5, Ar5, qk5, S5, N5_, Ha5, G5⟩ := id V4_b1
  have hin5 : ¬ ((3 : Int32) < 0 ∨ cl5.slots.size ≤ ((3 : Int32)).toNatClampNeg) := inb_of S5 ⟨by decide, by decide⟩
  obtain ⟨T5, h5, X5, e5, W5, st5⟩ := stB X4 hx hZ e4 Ar5 (j := (3 : Int32)) hin5 (g := (mkF m 28 #[.val (.int p0), .val (.int p1), .val (.int p2), .val (.int p3), .val (.int p4), .val (.int p5), .val (.ref b1), .unset, .unset, .unset, .unset, .unset] [(.int (p3.toInt8.toInt32)), (.int (3 : Int32)), (.ref b1)])) rfl rfl (hb hby at_28)
  have V5_b1 : Arv Z h5 b1 k1 .byte (4 : Int32) [(.int (nar .byte (p0.toInt8.toInt32))), (.int (nar .byte (p1.toInt8.toInt32))), (.int (nar .byte (p2.toInt8.toInt32))), (.int (nar .byte (p3.toInt8.toInt32)))] (.int (0 : Int32)) := Arv.set Ar5 qk5 S5 N5_ Ha5 G5 (fits_nar_byte _) W5 3 rfl (Nat.le_of_ble_eq_true rfl)
  have S_LF_c5 : Sta Z h5 "com/example/lotear/lotear/cnab/Record$LineEnding" "LF" "Lcom/example/lotear/lotear/cnab/Record$LineEnding;" (.ref s_LF) := S_LF_c4.wr W5
  have N5 := Fr.snoc X5 N4 gn_b1
  have Z5 : n0 ≤ h5.size := Nat.le_trans Z4 (Keep.of_wr W5).1
  refine own_go (G := T5.setTop (mkF m 29 #[.val (.int p0), .val (.int p1), .val (.int p2), .val (.int p3), .val (.int p4), .val (.int p5), .val (.ref b1), .unset, .unset, .unset, .unset, .unset] [])) (st5) ?_
  obtain ⟨T6, h6, X6, e6, E6, A6, D6, -, st6⟩ := newO X5 hx hZ hown (hw _ (List.mem_of_getElem? (i := 1) rfl)) (hw _ (List.mem_of_getElem? (i := 2) rfl)) (hw _ (List.mem_of_getElem? (i := 3) rfl)) e5 (g := (mkF m 29 #[.val (.int p0), .val (.int p1), .val (.int p2), .val (.int p3), .val (.int p4), .val (.int p5), .val (.ref b1), .unset, .unset, .unset, .unset, .unset] [])) rfl (hb hby at_29) (by decide) (by decide)
  obtain ⟨b6, g6⟩ : ∃ z, z = h5.size := ⟨_, rfl⟩
  rw [← g6] at A6 D6 st6
  have gn_b6 : n0 ≤ b6 := Nat.le_trans Z5 (Nat.le_of_eq g6.symm)
  have ne_b1_b6 : b1 ≠ b6 := Nat.ne_of_lt (Nat.lt_of_lt_of_le V5_b1.lt (Nat.le_of_eq g6.symm))
  have S_LF_c6 : Sta Z h6 "com/example/lotear/lotear/cnab/Record$LineEnding" "LF" "Lcom/example/lotear/lotear/cnab/Record$LineEnding;" (.ref s_LF) := S_LF_c5.ext E6
  have V5_b1_c6 : Arv Z h6 b1 k1 .byte (4 : Int32) [(.int (nar .byte (p0.toInt8.toInt32))), (.int (nar .byte (p1.toInt8.toInt32))), (.int (nar .byte (p2.toInt8.toInt32))), (.int (nar .byte (p3.toInt8.toInt32)))] (.int (0 : Int32)) := V5_b1.ext E6
  have Z6 : n0 ≤ h6.size := Nat.le_trans Z5 E6.1
  have F_line_b6 : Fld Z h6 b6 "com/example/lotear/lotear/cnab/Record" "line" "I" (.int (0 : Int32)) := D6 (Or.inr (hw _ (List.mem_of_getElem? (i := 14) rfl))) (ty := .int) (by decide)
  have F_columns_b6 : Fld Z h6 b6 "com/example/lotear/lotear/cnab/Record" "columns" "[B" .null := D6 (Or.inr (hw _ (List.mem_of_getElem? (i := 16) rfl))) (ty := (.array .byte)) (by decide)
  have F_length_b6 : Fld Z h6 b6 "com/example/lotear/lotear/cnab/Record" "length" "I" (.int (0 : Int32)) := D6 (Or.inr (hw _ (List.mem_of_getElem? (i := 18) rfl))) (ty := .int) (by decide)
  have F_ending_b6 : Fld Z h6 b6 "com/example/lotear/lotear/cnab/Record" "ending" "Lcom/example/lotear/lotear/cnab/Record$LineEnding;" .null := D6 (Or.inr (hw _ (List.mem_of_getElem? (i := 20) rfl))) (ty := (.object "com/example/lotear/lotear/cnab/Record$LineEnding")) (by decide)
  refine own_go (G := T6.setTop (mkF m 32 #[.val (.int p0), .val (.int p1), .val (.int p2), .val (.int p3), .val (.int p4), .val (.int p5), .val (.ref b1), .unset, .unset, .unset, .unset, .unset] [(.ref b6)])) (st6) ?_
  refine own_go (G := T6.setTop (mkF m 33 #[.val (.int p0), .val (.int p1), .val (.int p2), .val (.int p3), .val (.int p4), .val (.int p5), .val (.ref b1), .unset, .unset, .unset, .unset, .unset] [(.ref b6), (.ref b6)])) (fun _ k => XS.dup X6.here hx rfl (hb hby at_32) rfl rfl k) ?_
  refine own_go (G := T6.setTop (mkF m 35 #[.val (.int p0), .val (.int p1), .val (.int p2), .val (.int p3), .val (.int p4), .val (.int p5), .val (.ref b1), .unset, .unset, .unset, .unset, .unset] [(.int p4), (.ref b6), (.ref b6)])) (fun _ k => XS.iload X6.here hx rfl (hb hby at_33) rfl k) ?_
  refine own_go (G := T6.setTop (mkF m 37 #[.val (.int p0), .val (.int p1), .val (.int p2), .val (.int p3), .val (.int p4), .val (.int p5), .val (.ref b1), .unset, .unset, .unset, .unset, .unset] [(.ref b1), (.int p4), (.ref b6), (.ref b6)])) (fun _ k => XS.aload X6.here hx rfl (hb hby at_35) rfl rfl k) ?_
  refine own_go (G := T6.setTop (mkF m 39 #[.val (.int p0), .val (.int p1), .val (.int p2), .val (.int p3), .val (.int p4), .val (.int p5), .val (.ref b1), .unset, .unset, .unset, .unset, .unset] [(.int p5), (.ref b1), (.int p4), (.ref b6), (.ref b6)])) (fun _ k => XS.iload X6.here hx rfl (hb hby at_37) rfl k) ?_
  obtain ⟨T7, X7, e7, st7⟩ := getS2 X6 hx hZ hown (host := "") (Or.inl (hw _ (List.mem_of_getElem? (i := 4) rfl))) Via.refl e6 S_LF_c6 (g := (mkF m 39 #[.val (.int p0), .val (.int p1), .val (.int p2), .val (.int p3), .val (.int p4), .val (.int p5), .val (.ref b1), .unset, .unset, .unset, .unset, .unset] [(.int p5), (.ref b1), (.int p4), (.ref b6), (.ref b6)])) rfl (hb hby at_39)
  refine own_go (G := T7.setTop (mkF m 42 #[.val (.int p0), .val (.int p1), .val (.int p2), .val (.int p3), .val (.int p4), .val (.int p5), .val (.ref b1), .unset, .unset, .unset, .unset, .unset] [(.ref s_LF), (.int p5), (.ref b1), (.int p4), (.ref b6), (.ref b6)])) (st7) ?_
  obtain ⟨_, _, ⟨T8, L8, k8, n8⟩, -, X8, ⟨Lc8, hQ8, l8, y8, z8⟩, st8⟩ := X7.specialBack hx (y := (⟨"com/example/lotear/lotear/cnab/Record", "<init>", "(I[BILcom/example/lotear/lotear/cnab/Record$LineEnding;)V"⟩ : MethodName)) rfl hown (mvT hZ (hw _ (List.mem_of_getElem? (i := 7) rfl))) (mvT hZ (hw _ (List.mem_of_getElem? (i := 8) rfl))) (mvT hZ (hw _ (List.mem_of_getElem? (i := 9) rfl))) (by decide) (backOf (W := 1) (rm1 l Z a0 hw [] b6 p4 b1 p5 s_LF h6 n0 Z6 F_line_b6 F_columns_b6 F_length_b6 F_ending_b6 A6 gn_b6) hZ (hw _ (List.mem_of_getElem? (i := 9) rfl)) (hw _ (List.mem_of_getElem? (i := 3) rfl)) (by decide) (by decide)) (g := (mkF m 42 #[.val (.int p0), .val (.int p1), .val (.int p2), .val (.int p3), .val (.int p4), .val (.int p5), .val (.ref b1), .unset, .unset, .unset, .unset, .unset] [(.ref s_LF), (.int p5), (.ref b1), (.int p4), (.ref b6), (.ref b6)])) rfl (by rw [hml]; rfl) (Steps.refl _) (a := b6) (argsL := [(.int p4), (.ref b1), (.int p5), (.ref s_LF)]) (rest := [(.ref b6)]) (lenOf pd0 rfl) rfl (by show 2 * 0 + _ ≤ _; exact Nat.le_of_eq rfl) (hb hby at_42) (fun _ _ => ⟨rfl, e7, (by decide : 2 + 0 ≤ _), (by decide : 8 + 0 ≤ _)⟩)
  dsimp only [Pt.U, Pt.locs, Pt.cells, Pt.slots] at X8 l8 y8 z8 st8 hQ8
  subst l8 y8 z8
  obtain ⟨rfl, Nq8, Kq8, Eq8, Fq8_line, Fq8_columns, Fq8_length, Fq8_ending⟩ := hQ8
  have N8 := Fr.app N5 Nq8
  have V5_b1_c8 : Arv Z T8.heap b1 k1 .byte (4 : Int32) [(.int (nar .byte (p0.toInt8.toInt32))), (.int (nar .byte (p1.toInt8.toInt32))), (.int (nar .byte (p2.toInt8.toInt32))), (.int (nar .byte (p3.toInt8.toInt32)))] (.int (0 : Int32)) := V5_b1_c6.keep Kq8 (ninS ne_b1_b6 nin0)
  have Z8 : n0 ≤ T8.heap.size := Nat.le_trans Z6 Kq8.1
  refine own_go (G := T8.setTop (mkF m 45 #[.val (.int p0), .val (.int p1), .val (.int p2), .val (.int p3), .val (.int p4), .val (.int p5), .val (.ref b1), .unset, .unset, .unset, .unset, .unset] [(.ref b6)])) (fun _ k => st8.trans k) ?_
  refine own_go (G := T8.setTop (mkF m 47 #[.val (.int p0), .val (.int p1), .val (.int p2), .val (.int p3), .val (.int p4), .val (.int p5), .val (.ref b1), .val (.ref b6), .unset, .unset, .unset, .unset] [])) (fun _ k => XS.astore X8.here hx rfl (hb hby at_45) rfl rfl (l' := #[.val (.int p0), .val (.int p1), .val (.int p2), .val (.int p3), .val (.int p4), .val (.int p5), .val (.ref b1), .val (.ref b6), .unset, .unset, .unset, .unset]) rfl k) ?_
  refine own_go (G := T8.setTop (mkF m 49 #[.val (.int p0), .val (.int p1), .val (.int p2), .val (.int p3), .val (.int p4), .val (.int p5), .val (.ref b1), .val (.ref b6), .unset, .unset, .unset, .unset] [(.ref b6)])) (fun _ k => XS.aload X8.here hx rfl (hb hby at_47) rfl rfl k) ?_
  refine own_go (G := T8.setTop (mkF m 50 #[.val (.int p0), .val (.int p1), .val (.int p2), .val (.int p3), .val (.int p4), .val (.int p5), .val (.ref b1), .val (.ref b6), .unset, .unset, .unset, .unset] [(.int (1 : Int32)), (.ref b6)])) (fun _ k => XS.iconst X8.here hx rfl (hb hby at_49) k) ?_
  obtain ⟨cl_50, Ar_50, q_50, S_50, N_50, Ha_50, G_50⟩ := id V5_b1_c8
  have hin_50 : ¬ (((1 : Int32) - (1 : Int32)) < 0 ∨ cl_50.slots.size ≤ ((1 : Int32) - (1 : Int32)).toNatClampNeg) := inb_of S_50 ⟨by decide, by decide⟩
  have hat_50 : cl_50.slots[((1 : Int32) - (1 : Int32)).toNatClampNeg]? = some (.int (nar .byte (p0.toInt8.toInt32))) := Ha_50.at hin_50 rfl
  obtain ⟨cq9, kq9, qk9a, qk9b, qk9c⟩ := isOf hZ rfl Eq8
  obtain ⟨_, _, ⟨T9, L9, k9, n9⟩, -, X9, ⟨Lc9, hQ9, l9, y9, z9⟩, st9⟩ := X8.virtualBack hx (y := (⟨"com/example/lotear/lotear/cnab/Record", "column", "(I)C"⟩ : MethodName)) (z := (⟨"com/example/lotear/lotear/cnab/Record", "column", "(I)C"⟩ : MethodName)) hown (mvT hZ (hw _ (List.mem_of_getElem? (i := 21) rfl))) (mvT hZ (hw _ (List.mem_of_getElem? (i := 22) rfl))) (notFace_of_selects (args := #[]) (mvT hZ (hw _ (List.mem_of_getElem? (i := 24) rfl)))) (mvT hZ (hw _ (List.mem_of_getElem? (i := 24) rfl))) (mvT hZ (hw _ (List.mem_of_getElem? (i := 23) rfl))) (by decide) (backOf (W := 0) (rm3 l Z a0 hw [] b6 (1 : Int32) b1 cl_50 (nar .byte (p0.toInt8.toInt32)) T8.heap n0 Z8 Fq8_columns Ar_50 hin_50 hat_50) hZ (hw _ (List.mem_of_getElem? (i := 25) rfl)) (hw _ (List.mem_of_getElem? (i := 3) rfl)) (by decide) (by decide)) qk9a qk9c (g := (mkF m 50 #[.val (.int p0), .val (.int p1), .val (.int p2), .val (.int p3), .val (.int p4), .val (.int p5), .val (.ref b1), .val (.ref b6), .unset, .unset, .unset, .unset] [(.int (1 : Int32)), (.ref b6)])) rfl (by rw [hml]; rfl) (Steps.refl _) (argsL := [(.int (1 : Int32))]) (rest := []) (lenOf pd1 rfl) rfl (by show 2 * 0 + _ ≤ _; exact Nat.le_of_eq rfl) (hb hby at_50) (fun _ _ => ⟨rfl, rfl, (by decide : 2 + 0 ≤ _), (by decide : 8 + 0 ≤ _)⟩)
  dsimp only [Pt.U, Pt.locs, Pt.cells, Pt.slots] at X9 l9 y9 z9 st9 hQ9
  subst l9 y9 z9
  obtain ⟨rfl, Nq9, e9⟩ := hQ9
  have N9 := Fr.app N8 Nq9
  refine own_go (G := T9.setTop (mkF m 53 #[.val (.int p0), .val (.int p1), .val (.int p2), .val (.int p3), .val (.int p4), .val (.int p5), .val (.ref b1), .val (.ref b6), .unset, .unset, .unset, .unset] [(.int (F3 b6 (1 : Int32) b1 cl_50 (nar .byte (p0.toInt8.toInt32))))])) (fun _ k => st9.trans k) ?_
  generalize hv10 : (F3 b6 (1 : Int32) b1 cl_50 (nar .byte (p0.toInt8.toInt32))) = v10
  refine own_go (G := T9.setTop (mkF m 55 #[.val (.int p0), .val (.int p1), .val (.int p2), .val (.int p3), .val (.int p4), .val (.int p5), .val (.ref b1), .val (.ref b6), .val (.int v10), .unset, .unset, .unset] [])) (fun _ k => XS.istore X9.here hx rfl (hb hby at_53) rfl (l' := #[.val (.int p0), .val (.int p1), .val (.int p2), .val (.int p3), .val (.int p4), .val (.int p5), .val (.ref b1), .val (.ref b6), .val (.int v10), .unset, .unset, .unset]) rfl k) ?_
  refine own_go (G := T9.setTop (mkF m 57 #[.val (.int p0), .val (.int p1), .val (.int p2), .val (.int p3), .val (.int p4), .val (.int p5), .val (.ref b1), .val (.ref b6), .val (.int v10), .unset, .unset, .unset] [(.ref b6)])) (fun _ k => XS.aload X9.here hx rfl (hb hby at_55) rfl rfl k) ?_
  refine own_go (G := T9.setTop (mkF m 58 #[.val (.int p0), .val (.int p1), .val (.int p2), .val (.int p3), .val (.int p4), .val (.int p5), .val (.ref b1), .val (.ref b6), .val (.int v10), .unset, .unset, .unset] [(.int (2 : Int32)), (.ref b6)])) (fun _ k => XS.iconst X9.here hx rfl (hb hby at_57) k) ?_
  obtain ⟨cl_58, Ar_58, q_58, S_58, N_58, Ha_58, G_58⟩ := id V5_b1_c8
  have hin_58 : ¬ (((2 : Int32) - (1 : Int32)) < 0 ∨ cl_58.slots.size ≤ ((2 : Int32) - (1 : Int32)).toNatClampNeg) := inb_of S_58 ⟨by decide, by decide⟩
  have hat_58 : cl_58.slots[((2 : Int32) - (1 : Int32)).toNatClampNeg]? = some (.int (nar .byte (p1.toInt8.toInt32))) := Ha_58.at hin_58 rfl
  obtain ⟨cq11, kq11, qk11a, qk11b, qk11c⟩ := isOf hZ e9 Eq8
  obtain ⟨_, _, ⟨T11, L11, k11, n11⟩, -, X11, ⟨Lc11, hQ11, l11, y11, z11⟩, st11⟩ := X9.virtualBack hx (y := (⟨"com/example/lotear/lotear/cnab/Record", "column", "(I)C"⟩ : MethodName)) (z := (⟨"com/example/lotear/lotear/cnab/Record", "column", "(I)C"⟩ : MethodName)) hown (mvT hZ (hw _ (List.mem_of_getElem? (i := 21) rfl))) (mvT hZ (hw _ (List.mem_of_getElem? (i := 22) rfl))) (notFace_of_selects (args := #[]) (mvT hZ (hw _ (List.mem_of_getElem? (i := 24) rfl)))) (mvT hZ (hw _ (List.mem_of_getElem? (i := 24) rfl))) (mvT hZ (hw _ (List.mem_of_getElem? (i := 23) rfl))) (by decide) (backOf (W := 0) (rm3 l Z a0 hw [] b6 (2 : Int32) b1 cl_58 (nar .byte (p1.toInt8.toInt32)) T8.heap n0 Z8 Fq8_columns Ar_58 hin_58 hat_58) hZ (hw _ (List.mem_of_getElem? (i := 25) rfl)) (hw _ (List.mem_of_getElem? (i := 3) rfl)) (by decide) (by decide)) qk11a qk11c (g := (mkF m 58 #[.val (.int p0), .val (.int p1), .val (.int p2), .val (.int p3), .val (.int p4), .val (.int p5), .val (.ref b1), .val (.ref b6), .val (.int v10), .unset, .unset, .unset] [(.int (2 : Int32)), (.ref b6)])) rfl (by rw [hml]; rfl) (Steps.refl _) (argsL := [(.int (2 : Int32))]) (rest := []) (lenOf pd1 rfl) rfl (by show 2 * 0 + _ ≤ _; exact Nat.le_of_eq rfl) (hb hby at_58) (fun _ _ => ⟨rfl, e9, (by decide : 2 + 0 ≤ _), (by decide : 8 + 0 ≤ _)⟩)
  dsimp only [Pt.U, Pt.locs, Pt.cells, Pt.slots] at X11 l11 y11 z11 st11 hQ11
  subst l11 y11 z11
  obtain ⟨rfl, Nq11, e11⟩ := hQ11
  have N11 := Fr.app N9 Nq11
  refine own_go (G := T11.setTop (mkF m 61 #[.val (.int p0), .val (.int p1), .val (.int p2), .val (.int p3), .val (.int p4), .val (.int p5), .val (.ref b1), .val (.ref b6), .val (.int v10), .unset, .unset, .unset] [(.int (F3 b6 (2 : Int32) b1 cl_58 (nar .byte (p1.toInt8.toInt32))))])) (fun _ k => st11.trans k) ?_
  generalize hv12 : (F3 b6 (2 : Int32) b1 cl_58 (nar .byte (p1.toInt8.toInt32))) = v12
  refine own_go (G := T11.setTop (mkF m 63 #[.val (.int p0), .val (.int p1), .val (.int p2), .val (.int p3), .val (.int p4), .val (.int p5), .val (.ref b1), .val (.ref b6), .val (.int v10), .val (.int v12), .unset, .unset] [])) (fun _ k => XS.istore X11.here hx rfl (hb hby at_61) rfl (l' := #[.val (.int p0), .val (.int p1), .val (.int p2), .val (.int p3), .val (.int p4), .val (.int p5), .val (.ref b1), .val (.ref b6), .val (.int v10), .val (.int v12), .unset, .unset]) rfl k) ?_
  refine own_go (G := T11.setTop (mkF m 65 #[.val (.int p0), .val (.int p1), .val (.int p2), .val (.int p3), .val (.int p4), .val (.int p5), .val (.ref b1), .val (.ref b6), .val (.int v10), .val (.int v12), .unset, .unset] [(.ref b6)])) (fun _ k => XS.aload X11.here hx rfl (hb hby at_63) rfl rfl k) ?_
  refine own_go (G := T11.setTop (mkF m 66 #[.val (.int p0), .val (.int p1), .val (.int p2), .val (.int p3), .val (.int p4), .val (.int p5), .val (.ref b1), .val (.ref b6), .val (.int v10), .val (.int v12), .unset, .unset] [(.int (3 : Int32)), (.ref b6)])) (fun _ k => XS.iconst X11.here hx rfl (hb hby at_65) k) ?_
  obtain ⟨cl_66, Ar_66, q_66, S_66, N_66, Ha_66, G_66⟩ := id V5_b1_c8
  have hin_66 : ¬ (((3 : Int32) - (1 : Int32)) < 0 ∨ cl_66.slots.size ≤ ((3 : Int32) - (1 : Int32)).toNatClampNeg) := inb_of S_66 ⟨by decide, by decide⟩
  have hat_66 : cl_66.slots[((3 : Int32) - (1 : Int32)).toNatClampNeg]? = some (.int (nar .byte (p2.toInt8.toInt32))) := Ha_66.at hin_66 rfl
  obtain ⟨cq13, kq13, qk13a, qk13b, qk13c⟩ := isOf hZ e11 Eq8
  obtain ⟨_, _, ⟨T13, L13, k13, n13⟩, -, X13, ⟨Lc13, hQ13, l13, y13, z13⟩, st13⟩ := X11.virtualBack hx (y := (⟨"com/example/lotear/lotear/cnab/Record", "column", "(I)C"⟩ : MethodName)) (z := (⟨"com/example/lotear/lotear/cnab/Record", "column", "(I)C"⟩ : MethodName)) hown (mvT hZ (hw _ (List.mem_of_getElem? (i := 21) rfl))) (mvT hZ (hw _ (List.mem_of_getElem? (i := 22) rfl))) (notFace_of_selects (args := #[]) (mvT hZ (hw _ (List.mem_of_getElem? (i := 24) rfl)))) (mvT hZ (hw _ (List.mem_of_getElem? (i := 24) rfl))) (mvT hZ (hw _ (List.mem_of_getElem? (i := 23) rfl))) (by decide) (backOf (W := 0) (rm3 l Z a0 hw [] b6 (3 : Int32) b1 cl_66 (nar .byte (p2.toInt8.toInt32)) T8.heap n0 Z8 Fq8_columns Ar_66 hin_66 hat_66) hZ (hw _ (List.mem_of_getElem? (i := 25) rfl)) (hw _ (List.mem_of_getElem? (i := 3) rfl)) (by decide) (by decide)) qk13a qk13c (g := (mkF m 66 #[.val (.int p0), .val (.int p1), .val (.int p2), .val (.int p3), .val (.int p4), .val (.int p5), .val (.ref b1), .val (.ref b6), .val (.int v10), .val (.int v12), .unset, .unset] [(.int (3 : Int32)), (.ref b6)])) rfl (by rw [hml]; rfl) (Steps.refl _) (argsL := [(.int (3 : Int32))]) (rest := []) (lenOf pd1 rfl) rfl (by show 2 * 0 + _ ≤ _; exact Nat.le_of_eq rfl) (hb hby at_66) (fun _ _ => ⟨rfl, e11, (by decide : 2 + 0 ≤ _), (by decide : 8 + 0 ≤ _)⟩)
  dsimp only [Pt.U, Pt.locs, Pt.cells, Pt.slots] at X13 l13 y13 z13 st13 hQ13
  subst l13 y13 z13
  obtain ⟨rfl, Nq13, e13⟩ := hQ13
  have N13 := Fr.app N11 Nq13
  refine own_go (G := T13.setTop (mkF m 69 #[.val (.int p0), .val (.int p1), .val (.int p2), .val (.int p3), .val (.int p4), .val (.int p5), .val (.ref b1), .val (.ref b6), .val (.int v10), .val (.int v12), .unset, .unset] [(.int (F3 b6 (3 : Int32) b1 cl_66 (nar .byte (p2.toInt8.toInt32))))])) (fun _ k => st13.trans k) ?_
  generalize hv14 : (F3 b6 (3 : Int32) b1 cl_66 (nar .byte (p2.toInt8.toInt32))) = v14
  refine own_go (G := T13.setTop (mkF m 71 #[.val (.int p0), .val (.int p1), .val (.int p2), .val (.int p3), .val (.int p4), .val (.int p5), .val (.ref b1), .val (.ref b6), .val (.int v10), .val (.int v12), .val (.int v14), .unset] [])) (fun _ k => XS.istore X13.here hx rfl (hb hby at_69) rfl (l' := #[.val (.int p0), .val (.int p1), .val (.int p2), .val (.int p3), .val (.int p4), .val (.int p5), .val (.ref b1), .val (.ref b6), .val (.int v10), .val (.int v12), .val (.int v14), .unset]) rfl k) ?_
  refine own_go (G := T13.setTop (mkF m 73 #[.val (.int p0), .val (.int p1), .val (.int p2), .val (.int p3), .val (.int p4), .val (.int p5), .val (.ref b1), .val (.ref b6), .val (.int v10), .val (.int v12), .val (.int v14), .unset] [(.ref b6)])) (fun _ k => XS.aload X13.here hx rfl (hb hby at_71) rfl rfl k) ?_
  refine own_go (G := T13.setTop (mkF m 74 #[.val (.int p0), .val (.int p1), .val (.int p2), .val (.int p3), .val (.int p4), .val (.int p5), .val (.ref b1), .val (.ref b6), .val (.int v10), .val (.int v12), .val (.int v14), .unset] [(.int (4 : Int32)), (.ref b6)])) (fun _ k => XS.iconst X13.here hx rfl (hb hby at_73) k) ?_
  obtain ⟨cl_74, Ar_74, q_74, S_74, N_74, Ha_74, G_74⟩ := id V5_b1_c8
  have hin_74 : ¬ (((4 : Int32) - (1 : Int32)) < 0 ∨ cl_74.slots.size ≤ ((4 : Int32) - (1 : Int32)).toNatClampNeg) := inb_of S_74 ⟨by decide, by decide⟩
  have hat_74 : cl_74.slots[((4 : Int32) - (1 : Int32)).toNatClampNeg]? = some (.int (nar .byte (p3.toInt8.toInt32))) := Ha_74.at hin_74 rfl
  obtain ⟨cq15, kq15, qk15a, qk15b, qk15c⟩ := isOf hZ e13 Eq8
  obtain ⟨_, _, ⟨T15, L15, k15, n15⟩, -, X15, ⟨Lc15, hQ15, l15, y15, z15⟩, st15⟩ := X13.virtualBack hx (y := (⟨"com/example/lotear/lotear/cnab/Record", "column", "(I)C"⟩ : MethodName)) (z := (⟨"com/example/lotear/lotear/cnab/Record", "column", "(I)C"⟩ : MethodName)) hown (mvT hZ (hw _ (List.mem_of_getElem? (i := 21) rfl))) (mvT hZ (hw _ (List.mem_of_getElem? (i := 22) rfl))) (notFace_of_selects (args := #[]) (mvT hZ (hw _ (List.mem_of_getElem? (i := 24) rfl)))) (mvT hZ (hw _ (List.mem_of_getElem? (i := 24) rfl))) (mvT hZ (hw _ (List.mem_of_getElem? (i := 23) rfl))) (by decide) (backOf (W := 0) (rm3 l Z a0 hw [] b6 (4 : Int32) b1 cl_74 (nar .byte (p3.toInt8.toInt32)) T8.heap n0 Z8 Fq8_columns Ar_74 hin_74 hat_74) hZ (hw _ (List.mem_of_getElem? (i := 25) rfl)) (hw _ (List.mem_of_getElem? (i := 3) rfl)) (by decide) (by decide)) qk15a qk15c (g := (mkF m 74 #[.val (.int p0), .val (.int p1), .val (.int p2), .val (.int p3), .val (.int p4), .val (.int p5), .val (.ref b1), .val (.ref b6), .val (.int v10), .val (.int v12), .val (.int v14), .unset] [(.int (4 : Int32)), (.ref b6)])) rfl (by rw [hml]; rfl) (Steps.refl _) (argsL := [(.int (4 : Int32))]) (rest := []) (lenOf pd1 rfl) rfl (by show 2 * 0 + _ ≤ _; exact Nat.le_of_eq rfl) (hb hby at_74) (fun _ _ => ⟨rfl, e13, (by decide : 2 + 0 ≤ _), (by decide : 8 + 0 ≤ _)⟩)
  dsimp only [Pt.U, Pt.locs, Pt.cells, Pt.slots] at X15 l15 y15 z15 st15 hQ15
  subst l15 y15 z15
  obtain ⟨rfl, Nq15, e15⟩ := hQ15
  have N15 := Fr.app N13 Nq15
  refine own_go (G := T15.setTop (mkF m 77 #[.val (.int p0), .val (.int p1), .val (.int p2), .val (.int p3), .val (.int p4), .val (.int p5), .val (.ref b1), .val (.ref b6), .val (.int v10), .val (.int v12), .val (.int v14), .unset] [(.int (F3 b6 (4 : Int32) b1 cl_74 (nar .byte (p3.toInt8.toInt32))))])) (fun _ k => st15.trans k) ?_
  generalize hv16 : (F3 b6 (4 : Int32) b1 cl_74 (nar .byte (p3.toInt8.toInt32))) = v16
  refine own_go (G := T15.setTop (mkF m 79 #[.val (.int p0), .val (.int p1), .val (.int p2), .val (.int p3), .val (.int p4), .val (.int p5), .val (.ref b1), .val (.ref b6), .val (.int v10), .val (.int v12), .val (.int v14), .val (.int v16)] [])) (fun _ k => XS.istore X15.here hx rfl (hb hby at_77) rfl (l' := #[.val (.int p0), .val (.int p1), .val (.int p2), .val (.int p3), .val (.int p4), .val (.int p5), .val (.ref b1), .val (.ref b6), .val (.int v10), .val (.int v12), .val (.int v14), .val (.int v16)]) rfl k) ?_
  refine own_go (G := T15.setTop (mkF m 81 #[.val (.int p0), .val (.int p1), .val (.int p2), .val (.int p3), .val (.int p4), .val (.int p5), .val (.ref b1), .val (.ref b6), .val (.int v10), .val (.int v12), .val (.int v14), .val (.int v16)] [(.int v10)])) (fun _ k => XS.iload X15.here hx rfl (hb hby at_79) rfl k) ?_
  refine own_go (G := T15.setTop (mkF m 82 #[.val (.int p0), .val (.int p1), .val (.int p2), .val (.int p3), .val (.int p4), .val (.int p5), .val (.ref b1), .val (.ref b6), .val (.int v10), .val (.int v12), .val (.int v14), .val (.int v16)] [(.int p0), (.int v10)])) (fun _ k => XS.iloadN X15.here hx rfl (hb hby at_81) rfl k) ?_
  obtain ⟨_, _, ⟨T17, L17, k17, n17⟩, -, X17, ⟨Lc17, hQ17, l17, y17, z17⟩, st17⟩ := Jvm.LawKit.callS X15 hx (y := (⟨"com/example/lotear/lotear/cnab/RecordColumnPinLaw", "expected", "(I)C"⟩ : MethodName)) hown (mvT hZ (hw _ (List.mem_of_getElem? (i := 26) rfl))) (mvT hZ (hw _ (List.mem_of_getElem? (i := 27) rfl))) (mvT hZ (hw _ (List.mem_of_getElem? (i := 28) rfl))) (mvT hZ (hw _ (List.mem_of_getElem? (i := 29) rfl))) (by decide) (backOf (W := 1) (rm4 l Z a0 hw [] p0 T8.heap n0 Z8) hZ (hw _ (List.mem_of_getElem? (i := 29) rfl)) (hw _ (List.mem_of_getElem? (i := 28) rfl)) (by decide) (by decide)) (g := (mkF m 82 #[.val (.int p0), .val (.int p1), .val (.int p2), .val (.int p3), .val (.int p4), .val (.int p5), .val (.ref b1), .val (.ref b6), .val (.int v10), .val (.int v12), .val (.int v14), .val (.int v16)] [(.int p0), (.int v10)])) rfl (by rw [hml]; rfl) (argsL := [(.int p0)]) (rest := [(.int v10)]) (lenOf pd1 rfl) rfl (by show 2 * 0 + _ ≤ _; exact Nat.le_of_eq rfl) (hb hby at_82) (fun _ _ => ⟨rfl, e15, (by decide : 2 + 0 ≤ _), (by decide : 8 + 0 ≤ _)⟩)
  dsimp only [Pt.U, Pt.locs, Pt.cells, Pt.slots] at X17 l17 y17 z17 st17 hQ17
  subst l17 y17 z17
  obtain ⟨rfl, Nq17, e17⟩ := hQ17
  have N17 := Fr.app N15 Nq17
  refine own_go (G := T17.setTop (mkF m 85 #[.val (.int p0), .val (.int p1), .val (.int p2), .val (.int p3), .val (.int p4), .val (.int p5), .val (.ref b1), .val (.ref b6), .val (.int v10), .val (.int v12), .val (.int v14), .val (.int v16)] [(.int (F4 p0)), (.int v10)])) (st17) ?_
  refine own_go (G := T17.setTop (mkF m 88 #[.val (.int p0), .val (.int p1), .val (.int p2), .val (.int p3), .val (.int p4), .val (.int p5), .val (.ref b1), .val (.ref b6), .val (.int v10), .val (.int v12), .val (.int v14), .val (.int v16)] [])) (fun _ k => XS.icmpNo X17.here hx rfl (hb hby at_85) rfl (teq (own_law hv10 : v10 = (F4 p0))).2 k) ?_
  refine own_go (G := T17.setTop (mkF m 90 #[.val (.int p0), .val (.int p1), .val (.int p2), .val (.int p3), .val (.int p4), .val (.int p5), .val (.ref b1), .val (.ref b6), .val (.int v10), .val (.int v12), .val (.int v14), .val (.int v16)] [(.int v12)])) (fun _ k => XS.iload X17.here hx rfl (hb hby at_88) rfl k) ?_
  refine own_go (G := T17.setTop (mkF m 91 #[.val (.int p0), .val (.int p1), .val (.int p2), .val (.int p3), .val (.int p4), .val (.int p5), .val (.ref b1), .val (.ref b6), .val (.int v10), .val (.int v12), .val (.int v14), .val (.int v16)] [(.int p1), (.int v12)])) (fun _ k => XS.iloadN X17.here hx rfl (hb hby at_90) rfl k) ?_
  obtain ⟨_, _, ⟨T18, L18, k18, n18⟩, -, X18, ⟨Lc18, hQ18, l18, y18, z18⟩, st18⟩ := Jvm.LawKit.callS X17 hx (y := (⟨"com/example/lotear/lotear/cnab/RecordColumnPinLaw", "expected", "(I)C"⟩ : MethodName)) hown (mvT hZ (hw _ (List.mem_of_getElem? (i := 26) rfl))) (mvT hZ (hw _ (List.mem_of_getElem? (i := 27) rfl))) (mvT hZ (hw _ (List.mem_of_getElem? (i := 28) rfl))) (mvT hZ (hw _ (List.mem_of_getElem? (i := 29) rfl))) (by decide) (backOf (W := 1) (rm4 l Z a0 hw [] p1 T8.heap n0 Z8) hZ (hw _ (List.mem_of_getElem? (i := 29) rfl)) (hw _ (List.mem_of_getElem? (i := 28) rfl)) (by decide) (by decide)) (g := (mkF m 91 #[.val (.int p0), .val (.int p1), .val (.int p2), .val (.int p3), .val (.int p4), .val (.int p5), .val (.ref b1), .val (.ref b6), .val (.int v10), .val (.int v12), .val (.int v14), .val (.int v16)] [(.int p1), (.int v12)])) rfl (by rw [hml]; rfl) (argsL := [(.int p1)]) (rest := [(.int v12)]) (lenOf pd1 rfl) rfl (by show 2 * 0 + _ ≤ _; exact Nat.le_of_eq rfl) (hb hby at_91) (fun _ _ => ⟨rfl, e17, (by decide : 2 + 0 ≤ _), (by decide : 8 + 0 ≤ _)⟩)
  dsimp only [Pt.U, Pt.locs, Pt.cells, Pt.slots] at X18 l18 y18 z18 st18 hQ18
  subst l18 y18 z18
  obtain ⟨rfl, Nq18, e18⟩ := hQ18
  have N18 := Fr.app N17 Nq18
  refine own_go (G := T18.setTop (mkF m 94 #[.val (.int p0), .val (.int p1), .val (.int p2), .val (.int p3), .val (.int p4), .val (.int p5), .val (.ref b1), .val (.ref b6), .val (.int v10), .val (.int v12), .val (.int v14), .val (.int v16)] [(.int (F4 p1)), (.int v12)])) (st18) ?_
  refine own_go (G := T18.setTop (mkF m 97 #[.val (.int p0), .val (.int p1), .val (.int p2), .val (.int p3), .val (.int p4), .val (.int p5), .val (.ref b1), .val (.ref b6), .val (.int v10), .val (.int v12), .val (.int v14), .val (.int v16)] [])) (fun _ k => XS.icmpNo X18.here hx rfl (hb hby at_94) rfl (teq (own_law hv12 : v12 = (F4 p1))).2 k) ?_
  refine own_go (G := T18.setTop (mkF m 99 #[.val (.int p0), .val (.int p1), .val (.int p2), .val (.int p3), .val (.int p4), .val (.int p5), .val (.ref b1), .val (.ref b6), .val (.int v10), .val (.int v12), .val (.int v14), .val (.int v16)] [(.int v14)])) (fun _ k => XS.iload X18.here hx rfl (hb hby at_97) rfl k) ?_
  refine own_go (G := T18.setTop (mkF m 100 #[.val (.int p0), .val (.int p1), .val (.int p2), .val (.int p3), .val (.int p4), .val (.int p5), .val (.ref b1), .val (.ref b6), .val (.int v10), .val (.int v12), .val (.int v14), .val (.int v16)] [(.int p2), (.int v14)])) (fun _ k => XS.iloadN X18.here hx rfl (hb hby at_99) rfl k) ?_
  obtain ⟨_, _, ⟨T19, L19, k19, n19⟩, -, X19, ⟨Lc19, hQ19, l19, y19, z19⟩, st19⟩ := Jvm.LawKit.callS X18 hx (y := (⟨"com/example/lotear/lotear/cnab/RecordColumnPinLaw", "expected", "(I)C"⟩ : MethodName)) hown (mvT hZ (hw _ (List.mem_of_getElem? (i := 26) rfl))) (mvT hZ (hw _ (List.mem_of_getElem? (i := 27) rfl))) (mvT hZ (hw _ (List.mem_of_getElem? (i := 28) rfl))) (mvT hZ (hw _ (List.mem_of_getElem? (i := 29) rfl))) (by decide) (backOf (W := 1) (rm4 l Z a0 hw [] p2 T8.heap n0 Z8) hZ (hw _ (List.mem_of_getElem? (i := 29) rfl)) (hw _ (List.mem_of_getElem? (i := 28) rfl)) (by decide) (by decide)) (g := (mkF m 100 #[.val (.int p0), .val (.int p1), .val (.int p2), .val (.int p3), .val (.int p4), .val (.int p5), .val (.ref b1), .val (.ref b6), .val (.int v10), .val (.int v12), .val (.int v14), .val (.int v16)] [(.int p2), (.int v14)])) rfl (by rw [hml]; rfl) (argsL := [(.int p2)]) (rest := [(.int v14)]) (lenOf pd1 rfl) rfl (by show 2 * 0 + _ ≤ _; exact Nat.le_of_eq rfl) (hb hby at_100) (fun _ _ => ⟨rfl, e18, (by decide : 2 + 0 ≤ _), (by decide : 8 + 0 ≤ _)⟩)
  dsimp only [Pt.U, Pt.locs, Pt.cells, Pt.slots] at X19 l19 y19 z19 st19 hQ19
  subst l19 y19 z19
  obtain ⟨rfl, Nq19, e19⟩ := hQ19
  have N19 := Fr.app N18 Nq19
  refine own_go (G := T19.setTop (mkF m 103 #[.val (.int p0), .val (.int p1), .val (.int p2), .val (.int p3), .val (.int p4), .val (.int p5), .val (.ref b1), .val (.ref b6), .val (.int v10), .val (.int v12), .val (.int v14), .val (.int v16)] [(.int (F4 p2)), (.int v14)])) (st19) ?_
  refine own_go (G := T19.setTop (mkF m 106 #[.val (.int p0), .val (.int p1), .val (.int p2), .val (.int p3), .val (.int p4), .val (.int p5), .val (.ref b1), .val (.ref b6), .val (.int v10), .val (.int v12), .val (.int v14), .val (.int v16)] [])) (fun _ k => XS.icmpNo X19.here hx rfl (hb hby at_103) rfl (teq (own_law hv14 : v14 = (F4 p2))).2 k) ?_
  refine own_go (G := T19.setTop (mkF m 108 #[.val (.int p0), .val (.int p1), .val (.int p2), .val (.int p3), .val (.int p4), .val (.int p5), .val (.ref b1), .val (.ref b6), .val (.int v10), .val (.int v12), .val (.int v14), .val (.int v16)] [(.int v16)])) (fun _ k => XS.iload X19.here hx rfl (hb hby at_106) rfl k) ?_
  refine own_go (G := T19.setTop (mkF m 109 #[.val (.int p0), .val (.int p1), .val (.int p2), .val (.int p3), .val (.int p4), .val (.int p5), .val (.ref b1), .val (.ref b6), .val (.int v10), .val (.int v12), .val (.int v14), .val (.int v16)] [(.int p3), (.int v16)])) (fun _ k => XS.iloadN X19.here hx rfl (hb hby at_108) rfl k) ?_
  obtain ⟨_, _, ⟨T20, L20, k20, n20⟩, -, X20, ⟨Lc20, hQ20, l20, y20, z20⟩, st20⟩ := Jvm.LawKit.callS X19 hx (y := (⟨"com/example/lotear/lotear/cnab/RecordColumnPinLaw", "expected", "(I)C"⟩ : MethodName)) hown (mvT hZ (hw _ (List.mem_of_getElem? (i := 26) rfl))) (mvT hZ (hw _ (List.mem_of_getElem? (i := 27) rfl))) (mvT hZ (hw _ (List.mem_of_getElem? (i := 28) rfl))) (mvT hZ (hw _ (List.mem_of_getElem? (i := 29) rfl))) (by decide) (backOf (W := 1) (rm4 l Z a0 hw [] p3 T8.heap n0 Z8) hZ (hw _ (List.mem_of_getElem? (i := 29) rfl)) (hw _ (List.mem_of_getElem? (i := 28) rfl)) (by decide) (by decide)) (g := (mkF m 109 #[.val (.int p0), .val (.int p1), .val (.int p2), .val (.int p3), .val (.int p4), .val (.int p5), .val (.ref b1), .val (.ref b6), .val (.int v10), .val (.int v12), .val (.int v14), .val (.int v16)] [(.int p3), (.int v16)])) rfl (by rw [hml]; rfl) (argsL := [(.int p3)]) (rest := [(.int v16)]) (lenOf pd1 rfl) rfl (by show 2 * 0 + _ ≤ _; exact Nat.le_of_eq rfl) (hb hby at_109) (fun _ _ => ⟨rfl, e19, (by decide : 2 + 0 ≤ _), (by decide : 8 + 0 ≤ _)⟩)
  dsimp only [Pt.U, Pt.locs, Pt.cells, Pt.slots] at X20 l20 y20 z20 st20 hQ20
  subst l20 y20 z20
  obtain ⟨rfl, Nq20, e20⟩ := hQ20
  have N20 := Fr.app N19 Nq20
  refine own_go (G := T20.setTop (mkF m 112 #[.val (.int p0), .val (.int p1), .val (.int p2), .val (.int p3), .val (.int p4), .val (.int p5), .val (.ref b1), .val (.ref b6), .val (.int v10), .val (.int v12), .val (.int v14), .val (.int v16)] [(.int (F4 p3)), (.int v16)])) (st20) ?_
  refine own_go (G := T20.setTop (mkF m 115 #[.val (.int p0), .val (.int p1), .val (.int p2), .val (.int p3), .val (.int p4), .val (.int p5), .val (.ref b1), .val (.ref b6), .val (.int v10), .val (.int v12), .val (.int v14), .val (.int v16)] [])) (fun _ k => XS.icmpNo X20.here hx rfl (hb hby at_112) rfl (teq (own_law hv16 : v16 = (F4 p3))).2 k) ?_
  refine own_go (G := T20.setTop (mkF m 116 #[.val (.int p0), .val (.int p1), .val (.int p2), .val (.int p3), .val (.int p4), .val (.int p5), .val (.ref b1), .val (.ref b6), .val (.int v10), .val (.int v12), .val (.int v14), .val (.int v16)] [(.int (1 : Int32))])) (fun _ k => XS.iconst X20.here hx rfl (hb hby at_115) k) ?_
  refine own_go (G := T20.setTop (mkF m 120 #[.val (.int p0), .val (.int p1), .val (.int p2), .val (.int p3), .val (.int p4), .val (.int p5), .val (.ref b1), .val (.ref b6), .val (.int v10), .val (.int v12), .val (.int v14), .val (.int v16)] [(.int (1 : Int32))])) (fun _ k => XS.goto X20.here hx rfl (pc0 := 116) (pc' := 120) rfl (hb hby at_116) (by decide) (by decide) k) ?_
  exact own_ret1 X20 hx Bd.returns (hb hby at_120) Bd.notSynchronized (by decide) (by decide) ⟨rfl, N20⟩
set_option maxRecDepth 65536 in
set_option maxHeartbeats 40000000 in
theorem comes_1 {Post : Tables → Env → Array Value → State → Outcome → State → Prop} (hpost : ∀ tb e args s v u, (limb_1_1.after args s (.returned v) u = true ∧ limb_1_2.after args s (.returned v) u = true ∧ True) → FrameEnd s (.returned v) u (Jvm.fieldLocs frame_1_writes args s ++ Jvm.arrayLocs frame_1_arrays args s ++ Jvm.staticLocs frame_1_statics s) 16 128 → Post tb e args s (.returned v) u) :
    ArmFor flags0 classFile x code maxLocals ret World_1 tables_1 room_1 Calls_1 rest_1 Pre_1 Post := by
  intro l hfl _ _ p e ha hc hk s m args below hf hA hF happ hP
  obtain ⟨hcalls, hrest, hpre⟩ := hP
  obtain ⟨-, -, -, hnamed, -, -, -, hat⟩ := (Spec.applies_iff hf).mp happ
  obtain ⟨hg, hn⟩ := and_e (Cond.before_iff.mp (show (Jvm.Cond.and given_1 narrow_1).before args s = true from hpre))
  obtain ⟨gc, g0⟩ := and_e hg
  obtain ⟨ga0, g1⟩ := and_e g0
  obtain ⟨ga1, g2⟩ := and_e g1
  obtain ⟨ga2, g3⟩ := and_e g2
  obtain ⟨ga3, g4⟩ := and_e g3
  obtain ⟨ga4, g5⟩ := and_e g4
  obtain ⟨w0, w1, w2, w3, w4, w5, rfl⟩ : ∃ w0 w1 w2 w3 w4 w5 : Value, args = #[w0, w1, w2, w3, w4, w5] := by
    have hs : args.size = 6 := by simpa [Cond.value, given_1] using gc
    obtain ⟨L⟩ := args
    match L, hs with
    | [w0, w1, w2, w3, w4, w5], _ => exact ⟨w0, w1, w2, w3, w4, w5, rfl⟩
  have hw := fun d (hd : d ∈ tables_1) => atoms_spec (ws := Jvm.Cond.code x code maxLocals ret :: tables_1) hat d (List.mem_cons_of_mem _ hd)
  obtain ⟨i0, ei0⟩ := is_v ga0
  obtain rfl : w0 = (.int i0) := Option.some.inj ei0
  obtain ⟨i1, ei1⟩ := is_v ga1
  obtain rfl : w1 = (.int i1) := Option.some.inj ei1
  obtain ⟨i2, ei2⟩ := is_v ga2
  obtain rfl : w2 = (.int i2) := Option.some.inj ei2
  obtain ⟨i3, ei3⟩ := is_v ga3
  obtain rfl : w3 = (.int i3) := Option.some.inj ei3
  obtain ⟨i4, ei4⟩ := is_v ga4
  obtain rfl : w4 = (.int i4) := Option.some.inj ei4
  obtain ⟨i5, ei5⟩ := is_v g5
  obtain rfl : w5 = (.int i5) := Option.some.inj ei5
  obtain ⟨s_LF, ev_LF⟩ := exa_v hn
  have S_LF := Sta.start ev_LF (Or.inr ⟨(hw _ (List.mem_of_getElem? (i := 5) rfl)), (hw _ (List.mem_of_getElem? (i := 6) rfl))⟩)
  obtain ⟨n, o, h1, h2, h3, _, L, rfl, ⟨rfl, N⟩, hq⟩ := rm0 l s _ hw tables_1 i0 i1 i2 i3 i4 i5 s_LF s.heap s.heap.size (Nat.le_refl _) S_LF p e ha hc hk s m _ below hf ((Spec.applies_iff_loose hf).mp happ).1 ⟨rfl, State.Warmed39.refl s, rfl⟩ trivial
  refine ⟨n, _, h1, h2, h3, hpost _ _ _ _ _ _ ⟨Cond.after_iff.mpr rfl, Cond.after_iff.mpr (eq_i res_at (Term.int_eval (1)) rfl), trivial⟩ ⟨hq.1, hq.2.1, (hq.2.2.sift fun y hy => Or.inr (N y hy)).mono (by decide) (by decide)⟩⟩
theorem main_1_1 : Claimed_1_1 := comes_1 fun _ _ _ _ _ _ h hF => ⟨h.1, hF⟩
theorem main_1_2 : Claimed_1_2 := comes_1 fun _ _ _ _ _ _ h hF => ⟨h.2.1, hF⟩
end Jvm.Pilot.@@N@@
namespace Jvm.Pilot.@@N@@
open Jvm Jvm.ClassFile Sem Op Lib Jvm.Free Jvm.Stand Jvm.Pilot.@@N@@.Jvm.D
/-! MADE BY PROGRAM (witnessworld.py) out of the Statement's table words and the real class files: 13 classes; the members and pool entries that the words name. The judged class is class 1, her method 1. -/
namespace start1
open Jvm.ClassFile
def u (s : String) : CpInfo := .utf8 (stringToUtf16 s)
/-- a pool by its gaps: so many unusable entries, then the entry; so many at the end -/
def gap : Nat → List CpInfo → List CpInfo
  | 0, r => r
  | n + 1, r => .unusable :: gap n r
def poolList (es : List (Nat × CpInfo)) (last : Nat) : List CpInfo := es.foldr (fun e r => gap e.1 (e.2 :: r)) (gap last [])
def pool (es : List (Nat × CpInfo)) (last : Nat) : Array CpInfo := ⟨poolList es last⟩
def fileOf (pool : Array CpInfo) (this : Nat) (attrs : Array Attribute := #[]) (ms : Array MethodInfo := #[]) (fl : Nat := 33) (sup : Nat := 0) (ifs : Array Nat := #[]) (fds : Array FieldInfo := #[]) : ClassFile where
  minorVersion := 0
  majorVersion := 65
  constantPool := pool
  accessFlags := fl
  thisClass := this
  superClass := sup
  interfaces := ifs
  fields := fds
  methods := ms
  attributes := attrs
def plain (name : String) (sup : Option ClassId) : Class where
  name := name
  kind := .ordinary
  loader := none
  accessFlags := 33
  super := sup
  interfaces := #[]
  cf := none
  fields := #[]
  methods := #[]
  instanceTypes := #[]
  staticTypes := #[]
  resolved := #[]
  callSites := []
  init := .initialized
  statics := none
  mirror := none

def pool0 : Array CpInfo := pool [(5, u "<init>"), (0, u "()V"), (1, .class_ 10), (1, u "java/lang/Object")] 113

def k0c0 : Code := { maxStack := 0, maxLocals := 1, code := object_method_1_code, exceptionTable := #[], attributes := #[] }
def k0m0 : Method := { name := "<init>", desc := "()V", sig := { parameters := [], returnType := none }, accessFlags := 1, code := some k0c0 }
/-- java/lang/Object -/
def k0 : Class := { plain "java/lang/Object" none with
  accessFlags := 33
  interfaces := #[]
  cf := some (fileOf pool0 8 #[] #[{ accessFlags := 1, nameIndex := 5, descriptorIndex := 6, attributes := #[] }] 33 0 #[] #[])
  fields := #[]
  methods := #[k0m0]
  instanceTypes := #[]
  staticTypes := #[]
  resolved := Array.replicate 124 none
  statics := none }

def pool1 : Array CpInfo := pool [(2, .class_ 4), (1, u "java/lang/Object"), (0, u "<init>"), (0, u "()V"), (0, .class_ 8), (0, u "com/example/lotear/lotear/cnab/Record"), (0, .fieldref 10 11), (0, .class_ 12), (0, .nameAndType 13 14), (0, u "com/example/lotear/lotear/cnab/Record$LineEnding"), (0, u "LF"), (0, u "Lcom/example/lotear/lotear/cnab/Record$LineEnding;"), (0, .methodref 7 16), (0, .nameAndType 5 17), (0, u "(I[BILcom/example/lotear/lotear/cnab/Record$LineEnding;)V"), (0, .methodref 7 19), (0, .nameAndType 20 21), (0, u "column"), (0, u "(I)C"), (0, .methodref 23 24), (0, .class_ 25), (0, .nameAndType 26 21), (0, u "com/example/lotear/lotear/cnab/RecordColumnPinLaw"), (0, u "expected"), (2, u "law"), (0, u "(IIIIII)Z")] 7

def k1m0 : Method := { name := "<init>", desc := "()V", sig := { parameters := [], returnType := none }, accessFlags := 1, code := none }
def k1c1 : Code := { maxStack := 6, maxLocals := 12, code := code, exceptionTable := #[], attributes := #[] }
def k1m1 : Method := { name := "law", desc := "(IIIIII)Z", sig := { parameters := [.int, .int, .int, .int, .int, .int], returnType := some .boolean }, accessFlags := 9, code := some k1c1 }
def k1c2 : Code := { maxStack := 2, maxLocals := 3, code := method_3_code, exceptionTable := #[], attributes := #[] }
def k1m2 : Method := { name := "expected", desc := "(I)C", sig := { parameters := [.int], returnType := some .char }, accessFlags := 10, code := some k1c2 }
/-- com/example/lotear/lotear/cnab/RecordColumnPinLaw -/
def k1 : Class := { plain "com/example/lotear/lotear/cnab/RecordColumnPinLaw" (some 0) with
  accessFlags := 49
  interfaces := #[]
  cf := some (fileOf pool1 23 #[] #[{ accessFlags := 1, nameIndex := 5, descriptorIndex := 6, attributes := #[] }, { accessFlags := 9, nameIndex := 29, descriptorIndex := 30, attributes := #[] }, { accessFlags := 10, nameIndex := 26, descriptorIndex := 21, attributes := #[] }] 49 2 #[] #[])
  fields := #[]
  methods := #[k1m0, k1m1, k1m2]
  instanceTypes := #[]
  staticTypes := #[]
  resolved := Array.replicate 38 none
  statics := none }

def pool2 : Array CpInfo := pool [(14, .class_ 16), (1, u "com/example/lotear/lotear/cnab/Record"), (0, u "<init>"), (0, u "(I[BILcom/example/lotear/lotear/cnab/Record$LineEnding;)V"), (0, .methodref 20 21), (0, .class_ 22), (0, .nameAndType 17 23), (0, u "java/lang/Object"), (0, u "()V"), (0, .fieldref 14 25), (0, .nameAndType 26 27), (0, u "line"), (0, u "I"), (0, .fieldref 14 29), (0, .nameAndType 30 31), (0, u "columns"), (0, u "[B"), (0, .fieldref 14 33), (0, .nameAndType 34 27), (0, u "length"), (0, .fieldref 14 36), (0, .nameAndType 37 38), (0, u "ending"), (0, u "Lcom/example/lotear/lotear/cnab/Record$LineEnding;"), (17, u "(I)C"), (41, u "column"), (9, u "KINDS"), (136, u "BLANK"), (0, u "C"), (2, u "DATE_WIDTH"), (1, u "MOST_LONG_DIGITS"), (1, u "SHORT_DATE_WIDTH"), (1, u "SHORT_DATE_CENTURY"), (1, u "DIGITS"), (1, u "CAPITALS"), (1, u "BLANKS"), (1, u "OTHERS"), (26, .class_ 291), (0, u "com/example/lotear/lotear/cnab/Record$LineEnding")] 26

def k2c0 : Code := { maxStack := 2, maxLocals := 5, code := prog_25_method_2_code, exceptionTable := #[], attributes := #[] }
def k2m0 : Method := { name := "<init>", desc := "(I[BILcom/example/lotear/lotear/cnab/Record$LineEnding;)V", sig := { parameters := [.int, (.array .byte), .int, (.object "com/example/lotear/lotear/cnab/Record$LineEnding")], returnType := none }, accessFlags := 0, code := some k2c0 }
def k2c1 : Code := { maxStack := 3, maxLocals := 2, code := prog_25_method_7_code, exceptionTable := #[], attributes := #[] }
def k2m1 : Method := { name := "column", desc := "(I)C", sig := { parameters := [.int], returnType := some .char }, accessFlags := 0, code := some k2c1 }
/-- com/example/lotear/lotear/cnab/Record -/
def k2 : Class := { plain "com/example/lotear/lotear/cnab/Record" (some 0) with
  accessFlags := 49
  interfaces := #[]
  cf := some (fileOf pool2 14 #[.nestMembers #[290]] #[{ accessFlags := 0, nameIndex := 17, descriptorIndex := 18, attributes := #[] }, { accessFlags := 0, nameIndex := 98, descriptorIndex := 56, attributes := #[] }] 49 20 #[] #[{ accessFlags := 26, nameIndex := 245, descriptorIndex := 246, attributes := #[] }, { accessFlags := 26, nameIndex := 249, descriptorIndex := 27, attributes := #[] }, { accessFlags := 26, nameIndex := 251, descriptorIndex := 27, attributes := #[] }, { accessFlags := 24, nameIndex := 253, descriptorIndex := 27, attributes := #[] }, { accessFlags := 24, nameIndex := 255, descriptorIndex := 27, attributes := #[] }, { accessFlags := 24, nameIndex := 257, descriptorIndex := 27, attributes := #[] }, { accessFlags := 24, nameIndex := 259, descriptorIndex := 27, attributes := #[] }, { accessFlags := 24, nameIndex := 261, descriptorIndex := 27, attributes := #[] }, { accessFlags := 24, nameIndex := 263, descriptorIndex := 27, attributes := #[] }, { accessFlags := 26, nameIndex := 108, descriptorIndex := 31, attributes := #[] }, { accessFlags := 18, nameIndex := 26, descriptorIndex := 27, attributes := #[] }, { accessFlags := 18, nameIndex := 30, descriptorIndex := 31, attributes := #[] }, { accessFlags := 18, nameIndex := 34, descriptorIndex := 27, attributes := #[] }, { accessFlags := 18, nameIndex := 37, descriptorIndex := 38, attributes := #[] }])
  fields := #[{ name := "BLANK", type := .char, accessFlags := 26, slot := 0, constantValue := 0 }, { name := "DATE_WIDTH", type := .int, accessFlags := 26, slot := 1, constantValue := 0 }, { name := "MOST_LONG_DIGITS", type := .int, accessFlags := 26, slot := 2, constantValue := 0 }, { name := "SHORT_DATE_WIDTH", type := .int, accessFlags := 24, slot := 3, constantValue := 0 }, { name := "SHORT_DATE_CENTURY", type := .int, accessFlags := 24, slot := 4, constantValue := 0 }, { name := "DIGITS", type := .int, accessFlags := 24, slot := 5, constantValue := 0 }, { name := "CAPITALS", type := .int, accessFlags := 24, slot := 6, constantValue := 0 }, { name := "BLANKS", type := .int, accessFlags := 24, slot := 7, constantValue := 0 }, { name := "OTHERS", type := .int, accessFlags := 24, slot := 8, constantValue := 0 }, { name := "KINDS", type := (.array .byte), accessFlags := 26, slot := 9, constantValue := 0 }, { name := "line", type := .int, accessFlags := 18, slot := 0, constantValue := 0 }, { name := "columns", type := (.array .byte), accessFlags := 18, slot := 1, constantValue := 0 }, { name := "length", type := .int, accessFlags := 18, slot := 2, constantValue := 0 }, { name := "ending", type := (.object "com/example/lotear/lotear/cnab/Record$LineEnding"), accessFlags := 18, slot := 3, constantValue := 0 }]
  methods := #[k2m0, k2m1]
  instanceTypes := #[.int, (.array .byte), .int, (.object "com/example/lotear/lotear/cnab/Record$LineEnding")]
  staticTypes := #[.char, .int, .int, .int, .int, .int, .int, .int, .int, (.array .byte)]
  resolved := Array.replicate 318 none
  statics := none }

def pool3 : Array CpInfo := pool [(1, .class_ 2), (0, u "java/lang/constant/Constable"), (0, .class_ 4), (0, u "java/lang/Object")] 6

/-- java/lang/constant/Constable -/
def k3 : Class := { plain "java/lang/constant/Constable" (some 0) with
  accessFlags := 1537
  interfaces := #[]
  cf := some (fileOf pool3 1 #[] #[] 1537 3 #[] #[])
  fields := #[]
  methods := #[]
  instanceTypes := #[]
  staticTypes := #[]
  resolved := Array.replicate 11 none
  statics := none }

def pool4 : Array CpInfo := pool [(1, .class_ 2), (0, u "java/lang/Comparable"), (0, .class_ 4), (0, u "java/lang/Object")] 7

/-- java/lang/Comparable -/
def k4 : Class := { plain "java/lang/Comparable" (some 0) with
  accessFlags := 1537
  interfaces := #[]
  cf := some (fileOf pool4 1 #[] #[] 1537 3 #[] #[])
  fields := #[]
  methods := #[]
  instanceTypes := #[]
  staticTypes := #[]
  resolved := Array.replicate 12 none
  statics := none }

def pool5 : Array CpInfo := pool [(1, .class_ 2), (0, u "java/io/Serializable"), (0, .class_ 4), (0, u "java/lang/Object")] 2

/-- java/io/Serializable -/
def k5 : Class := { plain "java/io/Serializable" (some 0) with
  accessFlags := 1537
  interfaces := #[]
  cf := some (fileOf pool5 1 #[] #[] 1537 3 #[] #[])
  fields := #[]
  methods := #[]
  instanceTypes := #[]
  staticTypes := #[]
  resolved := Array.replicate 7 none
  statics := none }

def pool6 : Array CpInfo := pool [(2, .class_ 4), (1, u "java/lang/Enum"), (0, u "name"), (0, u "Ljava/lang/String;"), (2, u "ordinal"), (0, u "I"), (1, .class_ 14), (1, u "java/lang/Object"), (4, u "hash"), (86, .class_ 108), (1, u "java/lang/Enum$EnumDesc"), (2, .class_ 112), (0, u "java/lang/constant/Constable"), (0, .class_ 114), (0, u "java/lang/Comparable"), (0, .class_ 116), (0, u "java/io/Serializable")] 87

/-- java/lang/Enum -/
def k6 : Class := { plain "java/lang/Enum" (some 0) with
  accessFlags := 1057
  interfaces := #[3, 4, 5]
  cf := some (fileOf pool6 2 #[.nestMembers #[106]] #[] 1057 12 #[111, 113, 115] #[{ accessFlags := 18, nameIndex := 5, descriptorIndex := 6, attributes := #[] }, { accessFlags := 18, nameIndex := 9, descriptorIndex := 10, attributes := #[] }, { accessFlags := 2, nameIndex := 19, descriptorIndex := 10, attributes := #[] }])
  fields := #[{ name := "name", type := (.object "java/lang/String"), accessFlags := 18, slot := 0, constantValue := 0 }, { name := "ordinal", type := .int, accessFlags := 18, slot := 1, constantValue := 0 }, { name := "hash", type := .int, accessFlags := 2, slot := 2, constantValue := 0 }]
  methods := #[]
  instanceTypes := #[(.object "java/lang/String"), .int, .int]
  staticTypes := #[]
  resolved := Array.replicate 204 none
  statics := none }

def pool7 : Array CpInfo := pool [(1, .class_ 2), (0, u "com/example/lotear/lotear/cnab/Record$LineEnding"), (2, u "CR_LF"), (0, u "Lcom/example/lotear/lotear/cnab/Record$LineEnding;"), (2, u "LF"), (2, u "CR"), (2, u "NONE"), (2, u "$VALUES"), (0, u "[Lcom/example/lotear/lotear/cnab/Record$LineEnding;"), (6, .class_ 28), (1, u "java/lang/Enum"), (27, .class_ 57), (0, u "com/example/lotear/lotear/cnab/Record")] 2

/-- com/example/lotear/lotear/cnab/Record$LineEnding -/
def k7 : Class := { plain "com/example/lotear/lotear/cnab/Record$LineEnding" (some 6) with
  accessFlags := 16433
  interfaces := #[]
  cf := some (fileOf pool7 1 #[.nestHost 56] #[] 16433 26 #[] #[{ accessFlags := 16409, nameIndex := 5, descriptorIndex := 6, attributes := #[] }, { accessFlags := 16409, nameIndex := 9, descriptorIndex := 6, attributes := #[] }, { accessFlags := 16409, nameIndex := 12, descriptorIndex := 6, attributes := #[] }, { accessFlags := 16409, nameIndex := 15, descriptorIndex := 6, attributes := #[] }, { accessFlags := 4122, nameIndex := 18, descriptorIndex := 19, attributes := #[] }])
  fields := #[{ name := "CR_LF", type := (.object "com/example/lotear/lotear/cnab/Record$LineEnding"), accessFlags := 16409, slot := 0, constantValue := 0 }, { name := "LF", type := (.object "com/example/lotear/lotear/cnab/Record$LineEnding"), accessFlags := 16409, slot := 1, constantValue := 0 }, { name := "CR", type := (.object "com/example/lotear/lotear/cnab/Record$LineEnding"), accessFlags := 16409, slot := 2, constantValue := 0 }, { name := "NONE", type := (.object "com/example/lotear/lotear/cnab/Record$LineEnding"), accessFlags := 16409, slot := 3, constantValue := 0 }, { name := "$VALUES", type := (.array (.object "com/example/lotear/lotear/cnab/Record$LineEnding")), accessFlags := 4122, slot := 4, constantValue := 0 }]
  methods := #[]
  instanceTypes := #[(.object "java/lang/String"), .int, .int]
  staticTypes := #[(.object "com/example/lotear/lotear/cnab/Record$LineEnding"), (.object "com/example/lotear/lotear/cnab/Record$LineEnding"), (.object "com/example/lotear/lotear/cnab/Record$LineEnding"), (.object "com/example/lotear/lotear/cnab/Record$LineEnding"), (.array (.object "com/example/lotear/lotear/cnab/Record$LineEnding"))]
  resolved := Array.replicate 60 none
  statics := some 0 }

def pool8 : Array CpInfo := pool [(1, u "java/lang/Cloneable"), (0, .class_ 1), (0, u "java/lang/Object"), (0, .class_ 3)] 3

/-- java/lang/Cloneable -/
def k8 : Class := { plain "java/lang/Cloneable" (some 0) with
  accessFlags := 1537
  interfaces := #[]
  cf := some (fileOf pool8 2 #[] #[] 1537 4 #[] #[])
  fields := #[]
  methods := #[]
  instanceTypes := #[]
  staticTypes := #[]
  resolved := Array.replicate 8 none
  statics := none }

/-- the primitive byte -/
def k9 : Class := { plain "byte" none with kind := .primitive 'B', accessFlags := 0x411 }
/-- [B -/
def k10 : Class := { plain "[B" (some 0) with kind := .array 9 .byte, interfaces := #[8, 5], accessFlags := 1041 }

/-- the primitive int -/
def k11 : Class := { plain "int" none with kind := .primitive 'I', accessFlags := 0x411 }
/-- [I -/
def k12 : Class := { plain "[I" (some 0) with kind := .array 11 .int, interfaces := #[8, 5], accessFlags := 1041 }

def heap : Heap := #[{ cls := 7, slots := #[.null, .ref 1, .null, .null, .null], vm := .statics 7 },
  { cls := 7, slots := #[.null, .int 0, .int 0], vm := .none }]
def classes : Array Class := #[k0, k1, k2, k3, k4, k5, k6, k7, k8, k9, k10, k11, k12]
def interned : List (Array UInt16 × Addr) := []
def slotsUsed : Nat := 8
def theMethod : MethodId := ⟨1, 1⟩
def args0 : Array Value := #[.int 5, .int 5, .int 5, .int 5, .int 5, .int 5]
def aboutOver (below : List Frame) : State where
  vm := { classes := classes, interned := interned.toArray }
  heap := heap
  slotsUsed := slotsUsed
  threads := #[{ frames := .invoking theMethod args0 :: below }]
def below0 : List Frame := [.native { method := ⟨0, 0⟩, args := #[] }]
def about1 : State := aboutOver below0
def p0 : Program := .bare "" "" ""
def e0 : Env := launch0.env 0 0 0
theorem w_frames : about1.frames = Frame.invoking theMethod args0 :: below0 := rfl
set_option maxRecDepth 65536 in
theorem w_args : argsFit about1.vm theMethod args0 = true := by decide +kernel
set_option maxRecDepth 65536 in
theorem w_heap : heapFits about1 = true := by decide +kernel
set_option maxRecDepth 65536 in
theorem w_runnable : about1.curStatus? = some .runnable := by decide +kernel
set_option maxRecDepth 65536 in
theorem w_alone : about1.alone = true := by decide +kernel
set_option maxRecDepth 65536 in
theorem w_named : about1.methodNamed? x = some theMethod := by decide +kernel
set_option maxRecDepth 65536 in
theorem w_hears : about1.hears theMethod below0 = true := by decide +kernel
set_option maxRecDepth 65536 in
theorem w_ripe : about1.ripe theMethod args0 below0 = true := by decide +kernel
theorem w_running : about1.status = .running := rfl
set_option maxRecDepth 65536 in
theorem w_room : about1.hasRoom e0.platform room_1 = true :=
  launch0.hasRoom_least _ room_1 (by decide +kernel) (by decide +kernel) (by decide +kernel) (by decide +kernel) (by decide +kernel) (by decide +kernel)
theorem allAtoms_all (ts : List Jvm.Cond) (a : Array Jvm.Value) (st : Jvm.State) : (allAtoms ts).before a st = ts.all (fun c => c.before a st) := by
  induction ts with
  | nil => rfl
  | cons c t ih =>
    show (Jvm.Cond.and c (allAtoms t)).before a st = _
    rw [Jvm.Cond.before_and, ih, List.all_cons]
def words1 : List Jvm.Cond := Jvm.Cond.code x code maxLocals ret :: tables_1
/-- a 'code' word, met by the world's own term for the bytes: nothing is compared byte by byte -/
theorem code_word {y : MethodName} {bytes : ByteArray} {mx : Nat} {rt : Option FieldType} {a : Array Value} {s : State} {m : MethodId} {meth : Method} {c : Code} (h1 : s.methodNamed? y = some m) (h2 : s.vm.method? m = some meth) (h3 : meth.code = some c) (h4 : c.code = bytes)
    (h5 : (c.maxLocals == mx && c.exceptionTable.isEmpty && decide (c.maxStack ≤ mostOperands) && decide (meth.sig.returnType = rt) && !meth.locks && decide (parseMethodDescriptor y.desc = some meth.sig)) = true) : (Jvm.Cond.code y bytes mx rt).before a s = true := by
  simp only [Bool.and_eq_true, beq_iff_eq, Bool.not_eq_true', decide_eq_true_eq] at h5
  obtain ⟨⟨⟨⟨⟨g1, g2⟩, g3⟩, g4⟩, g5⟩, g6⟩ := h5
  simp [Cond.before, Cond.holds, Cond.value, h1, h2, h3, h4, g1, g2, g3, g4, g5, g6]
def isCode : Jvm.Cond → Bool
  | .code _ _ _ _ => true
  | _ => false
theorem all_split {L : List Jvm.Cond} {P : Jvm.Cond → Bool} (h1 : L.all (fun c => isCode c || P c) = true) (h2 : ∀ c ∈ L.filter isCode, P c = true) : L.all P = true := by
  refine List.all_eq_true.mpr fun c hc => ?_
  have h := List.all_eq_true.mp h1 c hc
  rcases Bool.eq_false_or_eq_true (isCode c) with hi | hi
  · exact h2 c (List.mem_filter.mpr ⟨hc, hi⟩)
  · simpa [hi] using h
set_option maxRecDepth 65536 in
theorem w_c0 : (Jvm.Cond.code x code maxLocals ret).before args0 about1 = true := code_word (m := ⟨1, 1⟩) (meth := k1m1) (c := k1c1) (by decide +kernel) rfl rfl rfl (by decide +kernel)
set_option maxRecDepth 65536 in
theorem w_c1 : (Jvm.Cond.code ({ cls := "com/example/lotear/lotear/cnab/Record", name := "<init>", desc := "(I[BILcom/example/lotear/lotear/cnab/Record$LineEnding;)V" } : Jvm.MethodName) prog_25_method_2_code (5 : Nat) (Option.none : Option Jvm.ClassFile.FieldType)).before args0 about1 = true := code_word (m := ⟨2, 0⟩) (meth := k2m0) (c := k2c0) (by decide +kernel) rfl rfl rfl (by decide +kernel)
set_option maxRecDepth 65536 in
theorem w_c2 : (Jvm.Cond.code ({ cls := "java/lang/Object", name := "<init>", desc := "()V" } : Jvm.MethodName) object_method_1_code (1 : Nat) (Option.none : Option Jvm.ClassFile.FieldType)).before args0 about1 = true := code_word (m := ⟨0, 0⟩) (meth := k0m0) (c := k0c0) (by decide +kernel) rfl rfl rfl (by decide +kernel)
set_option maxRecDepth 65536 in
theorem w_c3 : (Jvm.Cond.code ({ cls := "com/example/lotear/lotear/cnab/Record", name := "column", desc := "(I)C" } : Jvm.MethodName) prog_25_method_7_code (2 : Nat) (Option.some Jvm.ClassFile.FieldType.char)).before args0 about1 = true := code_word (m := ⟨2, 1⟩) (meth := k2m1) (c := k2c1) (by decide +kernel) rfl rfl rfl (by decide +kernel)
set_option maxRecDepth 65536 in
theorem w_c4 : (Jvm.Cond.code ({ cls := "com/example/lotear/lotear/cnab/RecordColumnPinLaw", name := "expected", desc := "(I)C" } : Jvm.MethodName) method_3_code (3 : Nat) (Option.some Jvm.ClassFile.FieldType.char)).before args0 about1 = true := code_word (m := ⟨1, 2⟩) (meth := k1m2) (c := k1c2) (by decide +kernel) rfl rfl rfl (by decide +kernel)
def codes1 : List Jvm.Cond := [Jvm.Cond.code x code maxLocals ret, Jvm.Cond.code ({ cls := "com/example/lotear/lotear/cnab/Record", name := "<init>", desc := "(I[BILcom/example/lotear/lotear/cnab/Record$LineEnding;)V" } : Jvm.MethodName) prog_25_method_2_code (5 : Nat) (Option.none : Option Jvm.ClassFile.FieldType), Jvm.Cond.code ({ cls := "java/lang/Object", name := "<init>", desc := "()V" } : Jvm.MethodName) object_method_1_code (1 : Nat) (Option.none : Option Jvm.ClassFile.FieldType), Jvm.Cond.code ({ cls := "com/example/lotear/lotear/cnab/Record", name := "column", desc := "(I)C" } : Jvm.MethodName) prog_25_method_7_code (2 : Nat) (Option.some Jvm.ClassFile.FieldType.char), Jvm.Cond.code ({ cls := "com/example/lotear/lotear/cnab/RecordColumnPinLaw", name := "expected", desc := "(I)C" } : Jvm.MethodName) method_3_code (3 : Nat) (Option.some Jvm.ClassFile.FieldType.char)]
set_option maxRecDepth 65536 in
theorem codes_eq : words1.filter isCode = codes1 := rfl
theorem w_codes : ∀ c ∈ words1.filter isCode, c.before args0 about1 = true := by
  rw [codes_eq]
  intro c hc
  simp only [codes1, List.mem_cons, List.not_mem_nil, or_false] at hc
  rcases hc with rfl | rfl | rfl | rfl | rfl
  · exact w_c0
  · exact w_c1
  · exact w_c2
  · exact w_c3
  · exact w_c4
set_option maxRecDepth 65536 in
theorem w_t1 : (words1.take 24).all (fun c => isCode c || c.before args0 about1) = true := by decide +kernel
set_option maxRecDepth 65536 in
theorem w_t2 : (words1.drop 24).all (fun c => isCode c || c.before args0 about1) = true := by decide +kernel
theorem w_tables : (allAtoms (Jvm.Cond.code x code maxLocals ret :: tables_1)).before args0 about1 = true := by
  rw [allAtoms_all]
  show words1.all (fun c => c.before args0 about1) = true
  refine all_split ?_ w_codes
  rw [← List.take_append_drop 24 words1, List.all_append, w_t1, w_t2]
  rfl
set_option maxRecDepth 65536 in
theorem w_case : (Jvm.Cond.and given_1 narrow_1).before args0 about1 = true := by decide +kernel
theorem w_applies : (headSpec (Jvm.Cond.code x code maxLocals ret :: tables_1) room_1).applies x e0.platform about1 = true :=
  (Spec.applies_iff w_frames).mpr ⟨w_running, w_runnable, w_alone, w_named, w_hears, w_ripe, w_room, w_tables⟩
theorem atStart : AtStart classFile x code maxLocals ret World_1 tables_1 room_1 Calls_1 rest_1 Pre_1 launch0 p0 e0 about1 theMethod args0 below0 :=
  ⟨lists_1, trivial, launch0.admits_env _ _ _, launch0.least_env, fairChoices_fair.cas, fairChoices_fair.clock, w_frames, w_args, w_heap, w_applies, trivial, trivial, w_case⟩
end start1
theorem witness_1 : WitnessClaimed_1 := ⟨start1.p0, start1.e0, start1.about1, start1.theMethod, start1.args0, start1.below0, start1.atStart⟩
end Jvm.Pilot.@@N@@
